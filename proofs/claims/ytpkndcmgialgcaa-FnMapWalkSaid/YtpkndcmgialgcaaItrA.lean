/- An iterator over a map: what it holds, and what is left.

An iterator over a map: to the first pair below a node. -/
import Derived.Test.YtpkndcmgialgcaaMapM
namespace Go.Proofs.Ytpkndcmgialgcaa
open Go.RowKit

/-- the parts from a on -/
def tailD (c : Nat → List (Int × Int)) (a : Nat) : List (Int × Int) := ((List.range 32).drop a).flatMap c
theorem tailD_zero (c : Nat → List (Int × Int)) : tailD c 0 = cat c := rfl
theorem tailD_step (c : Nat → List (Int × Int)) {a : Nat} (h : a < 32) : tailD c a = c a ++ tailD c (a + 1) := by
  unfold tailD
  rw [List.drop_eq_getElem_cons (by simpa using h), List.flatMap_cons]
  simp
theorem tailD_end (c : Nat → List (Int × Int)) {a : Nat} (h : 32 ≤ a) : tailD c a = [] := by
  unfold tailD
  rw [List.drop_eq_nil_of_le (by simpa using h)]
  rfl
theorem tailD_skip (c : Nat → List (Int × Int)) : ∀ {n a : Nat}, a + n ≤ 32 → (∀ g, a ≤ g → g < a + n → c g = []) → tailD c a = tailD c (a + n)
  | 0, a, _, _ => rfl
  | n + 1, a, hb, hn => by
    rw [tailD_step c (by omega), hn a (Nat.le_refl _) (by omega), List.nil_append, tailD_skip c (n := n) (a := a + 1) (by omega) fun g h1 h2 => hn g (by omega) (by omega)]
    congr 1
    omega
theorem tailD_to (c : Nat → List (Int × Int)) {a b : Nat} (hab : a ≤ b) (hb : b ≤ 32) (hn : ∀ g, a ≤ g → g < b → c g = []) : tailD c a = tailD c b := by
  obtain ⟨n, rfl⟩ := Nat.le.dest hab
  exact tailD_skip c hb hn

/-- an iterator's block: its map, its depth -/
def ItB (w : World) (ib mb : Nat) (arr : Array Value) (d : Int) : Prop :=
  w.heap[ib]? = some (.cells arr 172 (0, 0)) ∧ arr.size = 66 ∧ arr[0]? = some (.pointer (some ⟨mb, 0, none⟩)) ∧ arr[65]? = some (.int .i64 d) ∧ ∀ i, i < 32 → ∃ x, arr[1 + i * 2 + 1]? = some (.int .i64 x)
theorem own172 : ¬ Own 172 := by unfold Own; simp
theorem But.stay172 {w w' : World} {ib : Nat} {arr : Array Value} (h : But (· = ib) w w') (hf : w.heap[ib]? = some (.cells arr 172 (0, 0))) : Stay w w' := fun b c t hb ht => h.at hb fun e => by
  subst e
  rw [hf] at hb
  simp only [Option.some.injEq, Obj.cells.injEq] at hb
  exact own172 (hb.2.1 ▸ ht)
theorem ItB.other {w : World} {ib mb b : Nat} {arr : Array Value} {d : Int} (h : ItB w ib mb arr d) {c : Array Value} {t : TypeId} (hb : w.heap[b]? = some (Obj.cells c t (0, 0))) (ht : t ≠ 172) : ¬ b = ib := fun e => by
  subst e
  have h1 := h.1
  rw [hb] at h1
  simp only [Option.some.injEq, Obj.cells.injEq] at h1
  exact ht h1.2.1

section
variable (h : Int → Nat) (S : Nat → Prop) (w : World)
/-- a branch that stands at fragment f, at place x -/
def Brn (r t : Nat) (vk : Value) (c : Nat → List (Int × Int)) (kid : Nat → Value) (f x : Nat) : Prop :=
  (∀ f, f < 32 → c f = [] → kid f = .nilIface) ∧ (∀ f, f < 32 → c f ≠ [] → Node h S w r (t + 1) (kid f) (c f)) ∧ ((Bmp S w vk (pres c) kid ∧ x = cnt (pres c) f) ∨ (Hsh S w vk (pres c) kid ∧ x = f))
/-- a leaf of any kind -/
def LeafK (v : Value) (es : List (Int × Int)) : Prop := Leaf h S w v es ∨ ArrN S w v es
/-- the way down to a node v of level d -/
def Low (trie : Bool) (arr : Array Value) : Nat → Nat → Value → List (Int × Int) → List (Int × Int) → Prop
  | 0, _, v, es, after => after = [] ∧ es ≠ [] ∧ Root h S w trie v es
  | d + 1, r, v, es, after => ∃ (vk : Value) (c : Nat → List (Int × Int)) (kid : Nat → Value) (f x : Nat) (aft : List (Int × Int)), arr[1 + d * 2]? = some vk ∧ arr[1 + d * 2 + 1]? = some (.int .i64 (x : Int)) ∧ Brn h S w r d vk c kid f x ∧ f < 32 ∧ c f ≠ [] ∧
      v = kid f ∧ es = c f ∧ after = tailD c (f + 1) ++ aft ∧ Low trie arr d (r + 1) vk (cat c) aft
/-- what is left -/
def St (trie : Bool) (ib mb : Nat) (rest : List (Int × Int)) : Prop :=
  ∃ arr, (ItB w ib mb arr (-1) ∧ rest = []) ∨ ∃ (d r : Nat) (v : Value) (es after : List (Int × Int)) (x : Nat), r + d = 7 ∧ ItB w ib mb arr (d : Int) ∧ arr[1 + d * 2]? = some v ∧ arr[1 + d * 2 + 1]? = some (.int .i64 (x : Int)) ∧ Low h S w trie arr d r v es after ∧ LeafK h S w v es ∧ x < es.length ∧ es.length < 100000000 ∧ rest = es.drop x ++ after
end

section
variable {h : Int → Nat} {S : Nat → Prop} {w w' : World} {trie : Bool}
theorem Brn.stay {r t : Nat} {vk : Value} {c : Nat → List (Int × Int)} {kid : Nat → Value} {f x : Nat} (hs : Stay w w') : Brn h S w r t vk c kid f x → Brn h S w' r t vk c kid f x
  | ⟨h1, h2, h3⟩ => ⟨h1, fun f hf hc => (h2 f hf hc).stay hs, h3.imp (fun h => ⟨Bmp.keeps (Keeps.of_stay hs) h.1, h.2⟩) fun h => ⟨Hsh.keeps (Keeps.of_stay hs) h.1, h.2⟩⟩
theorem LeafK.stay {v : Value} {es : List (Int × Int)} (hs : Stay w w') : LeafK h S w v es → LeafK h S w' v es := fun n => n.imp (Leaf.keeps (Keeps.of_stay hs)) (ArrN.keeps (Keeps.of_stay hs))
theorem Low.stay {arr : Array Value} (hs : Stay w w') : ∀ {d r : Nat} {v : Value} {es after : List (Int × Int)}, Low h S w trie arr d r v es after → Low h S w' trie arr d r v es after
  | 0, _, _, _, _, ⟨h1, h2, h3⟩ => ⟨h1, h2, h3.stay hs⟩
  | _d + 1, _r, _, _, _, ⟨vk, c, kid, f, x, aft, h1, h2, h3, h4, h5, h6, h7, h8, h9⟩ => ⟨vk, c, kid, f, x, aft, h1, h2, h3.stay hs, h4, h5, h6, h7, h8, Low.stay hs h9⟩
theorem Low.arr {arr arr' : Array Value} : ∀ {d r : Nat} {v : Value} {es after : List (Int × Int)}, (∀ j, j < 1 + d * 2 → arr'[j]? = arr[j]?) → Low h S w trie arr d r v es after → Low h S w trie arr' d r v es after
  | 0, _, _, _, _, _, hl => hl
  | d + 1, r, _, _, _, ha, ⟨vk, c, kid, f, x, aft, h1, h2, h3, h4, h5, h6, h7, h8, h9⟩ =>
    ⟨vk, c, kid, f, x, aft, by rw [ha _ (by omega)]; exact h1, by rw [ha _ (by omega)]; exact h2, h3, h4, h5, h6, h7, h8, Low.arr (fun j hj => ha j (by omega)) h9⟩
theorem St.stay {ib mb : Nat} {rest : List (Int × Int)} (hs : Stay w w') (hi : ∀ arr, w.heap[ib]? = some (.cells arr 172 (0, 0)) → w'.heap[ib]? = some (.cells arr 172 (0, 0))) : St h S w trie ib mb rest → St h S w' trie ib mb rest
  | ⟨arr, .inl ⟨h1, h2⟩⟩ => ⟨arr, .inl ⟨⟨hi _ h1.1, h1.2⟩, h2⟩⟩
  | ⟨arr, .inr ⟨d, r, v, es, after, x, h1, h2, h3, h4, h5, h6, h7, h8⟩⟩ => ⟨arr, .inr ⟨d, r, v, es, after, x, h1, ⟨hi _ h2.1, h2.2⟩, h3, h4, h5.stay hs, h6.stay hs, h7, h8⟩⟩
/-- a node on the way is a leaf or a branch -/
theorem Low.top {arr : Array Value} {d r : Nat} {v : Value} {es after : List (Int × Int)} (hrd : r + d = 7) (hl : Low h S w trie arr d r v es after) :
    es ≠ [] ∧ (LeafK h S w v es ∨ ∃ (r' : Nat) (c : Nat → List (Int × Int)) (kid : Nat → Value), r = r' + 1 ∧ es = cat c ∧ (∀ f, f < 32 → c f = [] → kid f = .nilIface) ∧ (∀ f, f < 32 → c f ≠ [] → Node h S w r' (d + 1) (kid f) (c f)) ∧ (Bmp S w v (pres c) kid ∨ Hsh S w v (pres c) kid)) := by
  have node : ∀ {t : Nat}, Node h S w r t v es → t = d → es ≠ [] ∧ (LeafK h S w v es ∨ ∃ (r' : Nat) (c : Nat → List (Int × Int)) (kid : Nat → Value), r = r' + 1 ∧ es = cat c ∧ (∀ f, f < 32 → c f = [] → kid f = .nilIface) ∧ (∀ f, f < 32 → c f ≠ [] → Node h S w r' (d + 1) (kid f) (c f)) ∧ (Bmp S w v (pres c) kid ∨ Hsh S w v (pres c) kid)) := fun {t} n ht => by
    subst ht
    refine ⟨n.ne, ?_⟩
    cases r with
    | zero => exact .inl (.inl n)
    | succ r =>
      rcases n with n | ⟨c, kid, h1, h2, h3, h4, h5, h6⟩
      · exact .inl (.inl n)
      · exact .inr ⟨r, c, kid, rfl, h1, h4, h5, h6⟩
  cases d with
  | zero =>
    obtain ⟨h1, h2, h3⟩ := hl
    unfold Root at h3
    split at h3
    · obtain rfl : r = 7 := by omega
      exact node h3 rfl
    · exact ⟨h2, .inl (.inr h3)⟩
  | succ d =>
    obtain ⟨vk, c, kid, f, x, aft, h1, h2, h3, h4, h5, rfl, rfl, h8, h9⟩ := hl
    exact node (h3.2.1 f h4 h5) rfl
end

theorem first_pres {c : Nat → List (Int × Int)} (h : cat c ≠ []) : ∃ f, f < 32 ∧ c f ≠ [] ∧ cnt (pres c) f = 0 ∧ (∀ g, g < f → c g = []) := by
  have hpos : 0 < cnt (pres c) 32 := by
    rcases Nat.eq_zero_or_pos (cnt (pres c) 32) with h1 | h1
    · exfalso
      apply h
      refine cat_nil fun f hf => ?_
      by_cases hp : pres c f = true
      · have := cnt_lt (pres c) hf hp; omega
      · simpa [pres_t] using hp
    · exact h1
  obtain ⟨f, h1, h2, h3⟩ := cnt_surj hpos
  refine ⟨f, h1, pres_t.1 h2, h3, fun g hg => ?_⟩
  by_cases hp : pres c g = true
  · have := cnt_lt (pres c) hg hp; omega
  · simpa [pres_t] using hp
/-- the next part that is there -/
theorem next_pres {c : Nat → List (Int × Int)} {f : Nat} (hf : c f ≠ []) (hx : cnt (pres c) f + 1 < cnt (pres c) 32) : ∃ g, f < g ∧ g < 32 ∧ c g ≠ [] ∧ cnt (pres c) g = cnt (pres c) f + 1 ∧ (∀ i, f < i → i < g → c i = []) := by
  obtain ⟨g, h1, h2, h3⟩ := cnt_surj hx
  have hfg : f < g := by
    rcases Nat.lt_or_ge f g with h | h
    · exact h
    · have := cnt_mono (pres c) h; omega
  refine ⟨g, hfg, h1, pres_t.1 h2, h3, fun i h4 h5 => ?_⟩
  by_cases hp : pres c i = true
  · have h6 := cnt_lt (pres c) h4 (pres_t.2 hf)
    have h7 := cnt_lt (pres c) h5 hp
    omega
  · simpa [pres_t] using hp
theorem no_next {c : Nat → List (Int × Int)} {f : Nat} (hf : c f ≠ []) (hf32 : f < 32) (hx : ¬ cnt (pres c) f + 1 < cnt (pres c) 32) : tailD c (f + 1) = [] := by
  rw [tailD_to c (a := f + 1) (b := 32) (by omega) (Nat.le_refl _) fun g h1 h2 => ?_, tailD_end c (Nat.le_refl _)]
  by_cases hp : pres c g = true
  · have h6 := cnt_lt (pres c) (show f < g by omega) (pres_t.2 hf)
    have h7 := cnt_lt (pres c) h2 hp
    omega
  · simpa [pres_t] using hp

theorem as177_177 (p : Nat) (W : World) : Sem.run Try.prog (Instr.typeAssert (Value.iface 177 (Value.pointer (some { block := p, off := 0 }))) 165 177 true) W = .ok (.tuple #[.pointer (some ⟨p, 0, none⟩), .bool true]) W := by kernel_rfl
theorem as177_184 (p : Nat) (W : World) : Sem.run Try.prog (Instr.typeAssert (Value.iface 177 (Value.pointer (some { block := p, off := 0 }))) 165 184 true) W = .ok (.tuple #[.pointer none, .bool false]) W := by kernel_rfl
theorem as177_187 (p : Nat) (W : World) : Sem.run Try.prog (Instr.typeAssert (Value.iface 177 (Value.pointer (some { block := p, off := 0 }))) 165 187 true) W = .ok (.tuple #[.pointer none, .bool false]) W := by kernel_rfl
theorem as177_252 (p : Nat) (W : World) : Sem.run Try.prog (Instr.typeAssert (Value.iface 177 (Value.pointer (some { block := p, off := 0 }))) 165 252 true) W = .ok (.tuple #[.pointer none, .bool false]) W := by kernel_rfl
theorem as177_256 (p : Nat) (W : World) : Sem.run Try.prog (Instr.typeAssert (Value.iface 177 (Value.pointer (some { block := p, off := 0 }))) 165 256 true) W = .ok (.tuple #[.pointer none, .bool false]) W := by kernel_rfl
theorem as184_177 (p : Nat) (W : World) : Sem.run Try.prog (Instr.typeAssert (Value.iface 184 (Value.pointer (some { block := p, off := 0 }))) 165 177 true) W = .ok (.tuple #[.pointer none, .bool false]) W := by kernel_rfl
theorem as184_184 (p : Nat) (W : World) : Sem.run Try.prog (Instr.typeAssert (Value.iface 184 (Value.pointer (some { block := p, off := 0 }))) 165 184 true) W = .ok (.tuple #[.pointer (some ⟨p, 0, none⟩), .bool true]) W := by kernel_rfl
theorem as184_187 (p : Nat) (W : World) : Sem.run Try.prog (Instr.typeAssert (Value.iface 184 (Value.pointer (some { block := p, off := 0 }))) 165 187 true) W = .ok (.tuple #[.pointer none, .bool false]) W := by kernel_rfl
theorem as184_252 (p : Nat) (W : World) : Sem.run Try.prog (Instr.typeAssert (Value.iface 184 (Value.pointer (some { block := p, off := 0 }))) 165 252 true) W = .ok (.tuple #[.pointer none, .bool false]) W := by kernel_rfl
theorem as184_256 (p : Nat) (W : World) : Sem.run Try.prog (Instr.typeAssert (Value.iface 184 (Value.pointer (some { block := p, off := 0 }))) 165 256 true) W = .ok (.tuple #[.pointer none, .bool false]) W := by kernel_rfl
theorem as187_177 (p : Nat) (W : World) : Sem.run Try.prog (Instr.typeAssert (Value.iface 187 (Value.pointer (some { block := p, off := 0 }))) 165 177 true) W = .ok (.tuple #[.pointer none, .bool false]) W := by kernel_rfl
theorem as187_184 (p : Nat) (W : World) : Sem.run Try.prog (Instr.typeAssert (Value.iface 187 (Value.pointer (some { block := p, off := 0 }))) 165 184 true) W = .ok (.tuple #[.pointer none, .bool false]) W := by kernel_rfl
theorem as187_187 (p : Nat) (W : World) : Sem.run Try.prog (Instr.typeAssert (Value.iface 187 (Value.pointer (some { block := p, off := 0 }))) 165 187 true) W = .ok (.tuple #[.pointer (some ⟨p, 0, none⟩), .bool true]) W := by kernel_rfl
theorem as187_252 (p : Nat) (W : World) : Sem.run Try.prog (Instr.typeAssert (Value.iface 187 (Value.pointer (some { block := p, off := 0 }))) 165 252 true) W = .ok (.tuple #[.pointer none, .bool false]) W := by kernel_rfl
theorem as187_256 (p : Nat) (W : World) : Sem.run Try.prog (Instr.typeAssert (Value.iface 187 (Value.pointer (some { block := p, off := 0 }))) 165 256 true) W = .ok (.tuple #[.pointer none, .bool false]) W := by kernel_rfl
theorem as252_177 (p : Nat) (W : World) : Sem.run Try.prog (Instr.typeAssert (Value.iface 252 (Value.pointer (some { block := p, off := 0 }))) 165 177 true) W = .ok (.tuple #[.pointer none, .bool false]) W := by kernel_rfl
theorem as252_184 (p : Nat) (W : World) : Sem.run Try.prog (Instr.typeAssert (Value.iface 252 (Value.pointer (some { block := p, off := 0 }))) 165 184 true) W = .ok (.tuple #[.pointer none, .bool false]) W := by kernel_rfl
theorem as252_187 (p : Nat) (W : World) : Sem.run Try.prog (Instr.typeAssert (Value.iface 252 (Value.pointer (some { block := p, off := 0 }))) 165 187 true) W = .ok (.tuple #[.pointer none, .bool false]) W := by kernel_rfl
theorem as252_252 (p : Nat) (W : World) : Sem.run Try.prog (Instr.typeAssert (Value.iface 252 (Value.pointer (some { block := p, off := 0 }))) 165 252 true) W = .ok (.tuple #[.pointer (some ⟨p, 0, none⟩), .bool true]) W := by kernel_rfl
theorem as252_256 (p : Nat) (W : World) : Sem.run Try.prog (Instr.typeAssert (Value.iface 252 (Value.pointer (some { block := p, off := 0 }))) 165 256 true) W = .ok (.tuple #[.pointer none, .bool false]) W := by kernel_rfl
theorem as256_177 (p : Nat) (W : World) : Sem.run Try.prog (Instr.typeAssert (Value.iface 256 (Value.pointer (some { block := p, off := 0 }))) 165 177 true) W = .ok (.tuple #[.pointer none, .bool false]) W := by kernel_rfl
theorem as256_184 (p : Nat) (W : World) : Sem.run Try.prog (Instr.typeAssert (Value.iface 256 (Value.pointer (some { block := p, off := 0 }))) 165 184 true) W = .ok (.tuple #[.pointer none, .bool false]) W := by kernel_rfl
theorem as256_187 (p : Nat) (W : World) : Sem.run Try.prog (Instr.typeAssert (Value.iface 256 (Value.pointer (some { block := p, off := 0 }))) 165 187 true) W = .ok (.tuple #[.pointer none, .bool false]) W := by kernel_rfl
theorem as256_252 (p : Nat) (W : World) : Sem.run Try.prog (Instr.typeAssert (Value.iface 256 (Value.pointer (some { block := p, off := 0 }))) 165 252 true) W = .ok (.tuple #[.pointer none, .bool false]) W := by kernel_rfl
theorem as256_256 (p : Nat) (W : World) : Sem.run Try.prog (Instr.typeAssert (Value.iface 256 (Value.pointer (some { block := p, off := 0 }))) 165 256 true) W = .ok (.tuple #[.pointer (some ⟨p, 0, none⟩), .bool true]) W := by kernel_rfl
end Go.Proofs.Ytpkndcmgialgcaa

namespace Go.Proofs.Ytpkndcmgialgcaa
open Go.RowKit

theorem ItB.setIdx {w : World} {ib mb : Nat} {arr : Array Value} {d : Int} (hi : ItB w ib mb arr d) {j : Nat} (hj : j < 32) (y : Int) : ItB (w.setCell ⟨ib, 1 + j * 2 + 1, none⟩ (.int .i64 y)) ib mb (arr.setIfInBounds (1 + j * 2 + 1) (.int .i64 y)) d := by
  obtain ⟨h1, h2, h3, h4, h5⟩ := hi
  refine ⟨heap_setCell_same _ _ _ _ _ _ h1, by simp [h2], by rw [Array.getElem?_setIfInBounds_ne (by omega)]; exact h3, by rw [Array.getElem?_setIfInBounds_ne (by omega)]; exact h4, fun i hi' => ?_⟩
  by_cases e : i = j
  · subst e
    exact ⟨y, by rw [Array.getElem?_setIfInBounds_self_of_lt (by omega)]⟩
  · obtain ⟨x, hx⟩ := h5 i hi'
    exact ⟨x, by rw [Array.getElem?_setIfInBounds_ne (by omega)]; exact hx⟩
theorem ItB.setNode {w : World} {ib mb : Nat} {arr : Array Value} {d : Int} (hi : ItB w ib mb arr d) {j : Nat} (hj : j < 32) (u : Value) : ItB (w.setCell ⟨ib, 1 + j * 2, none⟩ u) ib mb (arr.setIfInBounds (1 + j * 2) u) d := by
  obtain ⟨h1, h2, h3, h4, h5⟩ := hi
  refine ⟨heap_setCell_same _ _ _ _ _ _ h1, by simp [h2], by rw [Array.getElem?_setIfInBounds_ne (by omega)]; exact h3, by rw [Array.getElem?_setIfInBounds_ne (by omega)]; exact h4, fun i hi' => ?_⟩
  obtain ⟨x, hx⟩ := h5 i hi'
  exact ⟨x, by rw [Array.getElem?_setIfInBounds_ne (by omega)]; exact hx⟩
theorem ItB.setDep {w : World} {ib mb : Nat} {arr : Array Value} {d : Int} (hi : ItB w ib mb arr d) (y : Int) : ItB (w.setCell ⟨ib, 65, none⟩ (.int .i64 y)) ib mb (arr.setIfInBounds 65 (.int .i64 y)) y := by
  obtain ⟨h1, h2, h3, h4, h5⟩ := hi
  refine ⟨heap_setCell_same _ _ _ _ _ _ h1, by simp [h2], by rw [Array.getElem?_setIfInBounds_ne (by omega)]; exact h3, by rw [Array.getElem?_setIfInBounds_self_of_lt (by omega)], fun i hi' => ?_⟩
  obtain ⟨x, hx⟩ := h5 i hi'
  exact ⟨x, by rw [Array.getElem?_setIfInBounds_ne (by omega)]; exact hx⟩
theorem ItB.drew {w : World} {ib mb : Nat} {arr : Array Value} {d : Int} (hi : ItB w ib mb arr d) : ItB w.drew ib mb arr d := hi
theorem stay_drew (w : World) : Stay w w.drew := fun _ _ _ h _ => h

/-- the iterator stands at place x of a leaf -/
theorem st_leaf {h : Int → Nat} {S : Nat → Prop} {trie : Bool} {w wr : World} {ib mb d r x : Nat} {arr a0 : Array Value} {v : Value} {es after : List (Int × Int)} (hrd : r + d = 7) (h0 : w.heap[ib]? = some (.cells a0 172 (0, 0))) (hb : But (· = ib) w wr) (hi : ItB wr ib mb arr (d : Int)) (hv : arr[1 + d * 2]? = some v) (hl : Low h S w trie arr d r v es after)
    (hleaf : LeafK h S w v es) (hle : es.length < 100000000) (hx : x < es.length) : But (· = ib) w (wr.setCell ⟨ib, 1 + d * 2 + 1, none⟩ (.int .i64 (x : Int))) ∧ St h S (wr.setCell ⟨ib, 1 + d * 2 + 1, none⟩ (.int .i64 (x : Int))) trie ib mb (es.drop x ++ after) := by
  have hb2 : But (· = ib) w (wr.setCell ⟨ib, 1 + d * 2 + 1, none⟩ (.int .i64 (x : Int))) := hb.setCell (.inl rfl) _
  have hs := hb2.stay172 h0
  refine ⟨hb2, arr.setIfInBounds (1 + d * 2 + 1) (.int .i64 (x : Int)), .inr ⟨d, r, v, es, after, x, hrd, hi.setIdx (by omega) _, ?_, ?_, ?_, hleaf.stay hs, hx, hle, rfl⟩⟩
  · rw [Array.getElem?_setIfInBounds_ne (by omega)]; exact hv
  · have := hi.2.1
    rw [Array.getElem?_setIfInBounds_self_of_lt (by omega)]
  · exact (hl.arr fun j hj => Array.getElem?_setIfInBounds_ne (by omega)).stay hs
theorem st_drew {h : Int → Nat} {S : Nat → Prop} {trie : Bool} {w wr : World} {ib mb : Nat} {rest : List (Int × Int)} (hp : But (· = ib) w wr ∧ St h S wr trie ib mb rest) : But (· = ib) w wr.drew ∧ St h S wr.drew trie ib mb rest :=
  ⟨hp.1.drew, hp.2.stay (stay_drew wr) fun _ h => h⟩

theorem low_down {h : Int → Nat} {S : Nat → Prop} {trie : Bool} {w : World} {arr arr' : Array Value} {d r f x : Nat} {v : Value} {c : Nat → List (Int × Int)} {kid : Nat → Value} {after : List (Int × Int)} (hl : Low h S w trie arr d (r + 1) v (cat c) after) (ha : ∀ j, j < 1 + d * 2 → arr'[j]? = arr[j]?)
    (hv : arr'[1 + d * 2]? = some v) (hx : arr'[1 + d * 2 + 1]? = some (.int .i64 (x : Int))) (hB : Brn h S w r d v c kid f x) (hf : f < 32) (hc : c f ≠ []) : Low h S w trie arr' (d + 1) r (kid f) (c f) (tailD c (f + 1) ++ after) :=
  ⟨v, c, kid, f, x, after, hv, hx, hB, hf, hc, rfl, rfl, rfl, hl.arr ha⟩
theorem cat_from {c : Nat → List (Int × Int)} {f : Nat} (hf : f < 32) (hb : ∀ g, g < f → c g = []) : cat c = c f ++ tailD c (f + 1) := by
  rw [← tailD_zero, tailD_to c (Nat.zero_le f) (by omega) fun g _ h => hb g h, tailD_step c hf]

set_option maxRecDepth 100000 in
set_option maxHeartbeats 3200000 in
theorem first_w (h : Int → Nat) (S : Nat → Prop) (trie : Bool) (w : World) (ib mb : Nat) (arr : Array Value) (d r : Nat) (v : Value) (es after : List (Int × Int)) (hlen : (es ++ after).length < 100000000) (hrd : r + d = 7) (hi : ItB w ib mb arr (d : Int)) (hv : arr[1 + d * 2]? = some v) (hl : Low h S w trie arr d r v es after) :
    Calls Try.prog 102 #[.pointer (some ⟨ib, 0, none⟩)] w fun e w' => e = .returned (.tuple #[]) ∧ But (· = ib) w w' ∧ St h S w' trie ib mb (es ++ after) := by
  obtain ⟨rest, hrest⟩ : ∃ rest, rest = es ++ after := ⟨_, rfl⟩
  rw [← hrest] at hlen ⊢
  have HLEN := Lib.hid hlen
  clear hlen
  have HI := Lib.hid hi
  have HV := Lib.hid hv
  have HL := Lib.hid hl
  have HRD := Lib.hid hrd
  have HREST := Lib.hid hrest
  clear hi hv hl hrd hrest
  go_enter Try.func102, Try.ntmps102
  go_wp2_with fail
  go_loopg [] r (fun k wr => ∃ (d r : Nat) (v : Value) (es after : List (Int × Int)) (arr : Array Value), k = r ∧ r + d = 7 ∧ ItB wr ib mb arr (d : Int) ∧ arr[1 + d * 2]? = some v ∧ Low h S w trie arr d r v es after ∧ rest = es ++ after ∧ But (· = ib) w wr)
  case atStart => exact ⟨d, r, v, es, after, arr, rfl, HRD.out, HI.out, HV.out, HL.out, HREST.out, But.refl _ _⟩
  case round =>
    obtain ⟨d, r, v, es, after, arr, rfl, hrd, hi, hv, hl, hrest, hb⟩ := hrel
    have htop := hl.top hrd
    have hlk := hi.2.2.2.2
    have hd32 : d < 32 := by omega
    obtain ⟨x0, hx0⟩ := hlk d hd32
    have cd := cell_at hi.1 hi.2.2.2.1
    have cv := cell_at hi.1 hv
    have cx := cell_at hi.1 hx0
    have fd : wr.frozen? ⟨ib, 65, none⟩ = false := frozen_of_row _ _ _ _ _ hi.1
    have fx : wr.frozen? ⟨ib, 1 + d * 2 + 1, none⟩ = false := frozen_of_row _ _ _ _ _ hi.1
    have hd0 : (0 : Int) ≤ (d : Int) := by omega
    have hd1 : (d : Int) < 32 := by omega
    have HI2 := Lib.hid hi
    have HV2 := Lib.hid hv
    have HL2 := Lib.hid hl
    have HREST2 := Lib.hid hrest
    have HB2 := Lib.hid hb
    have HRD2 := Lib.hid hrd
    obtain ⟨-, htop⟩ := htop
    have HTOP := Lib.hid htop
    clear hi hv hl hrest hb hrd htop hlk hx0
    go_upto_region 1 with (fail)
    refine region_tail 8 (by kernel_rfl) (by kernel_rfl) ?_
    simp only [List.take_succ_cons, List.take_zero, List.drop_succ_cons, List.drop_zero]
    repeat still_step
    refine wpStill_nil ?_
    rcases HTOP.out with hleaf | ⟨r', c, kid, hr', hes, hk0, hk1, hbr⟩
    · have hpos : 0 < es.length := by
        rcases Nat.eq_zero_or_pos es.length with h9 | h9
        · exact absurd (List.eq_nil_of_length_eq_zero h9) (HL2.out.top HRD2.out).1
        · exact h9
      have HEND := Lib.hid (st_leaf HRD2.out HI.out.1 HB2.out HI2.out HV2.out HL2.out hleaf (by have h9 := HLEN.out; rw [HREST2.out, List.length_append] at h9; omega) hpos)
      rw [List.drop_zero, ← HREST2.out] at HEND
      clear hpos
      rcases hleaf with hleaf | hleaf
      · rcases hleaf with ⟨b, k, y, rfl, h2, h3, h4⟩ | ⟨b, x, sl, rfl, h2, h3, h4, h5, h6⟩
        · have t1 := as184_252 b
          have t2 := as184_256 b
          clear h2 h3 h4
          go_wp2
          refine bodyPost_ret (results_none rfl _ _ _) rfl ?_
          exact ⟨rfl, st_drew HEND.out⟩
        · have t1 := as187_252 b
          have t2 := as187_256 b
          clear h2 h3 h4 h5 h6
          go_wp2
          refine bodyPost_ret (results_none rfl _ _ _) rfl ?_
          exact ⟨rfl, st_drew HEND.out⟩
      · obtain ⟨b, sl, rfl, h2, h3, h4, h5, h6⟩ := hleaf
        have t1 := as177_252 b
        have t2 := as177_256 b
        clear h2 h3 h4 h5 h6
        go_wp2
        refine bodyPost_ret (results_none rfl _ _ _) rfl ?_
        exact ⟨rfl, st_drew HEND.out⟩
    · obtain ⟨f0, hf0, hc0, hcnt, hbefore⟩ := first_pres (c := c) (by rw [← hes]; exact (HL2.out.top HRD2.out).1)
      obtain ⟨kt, kq, hkl⟩ := (hk1 f0 hf0 hc0).ptr
      have HK := Lib.hid (And.intro hk0 hk1)
      have HF := Lib.hid (And.intro hc0 (And.intro hcnt hbefore))
      have HKL := Lib.hid hkl
      have HES := Lib.hid hes
      have HR' := Lib.hid hr'
      clear hk0 hk1 hc0 hcnt hbefore hkl hes hr'
      rcases hbr with hbr | hbr
      · have HBR := Lib.hid hbr
        obtain ⟨b, m, nb, cap, ar, rfl, h7, h8, h9, h10, h11, h12, h13, h14⟩ := hbr
        have hbb := HB2.out.at h7 (HI.out.other h7 (by decide))
        have hbn := HB2.out.at h9 (HI.out.other h9 (by decide))
        have hc1 := cell_at (j := 1) hbb rfl
        have hk := h12 f0 hf0 (pres_t.2 HF.out.1)
        rw [HF.out.2.1, HKL.out] at hk
        have hn0 := cell_at hbn hk
        have hpos : 0 < cnt (pres c) 32 := by have := cnt_lt (pres c) hf0 (pres_t.2 HF.out.1); omega
        have HBK := Lib.hid (And.intro h7 (And.intro h9 hk))
        have t1 := as252_252 b
        have hw : IntKind.i64.wrap ((d : Int) + 1) = (d : Int) + 1 := by rw [IntKind.wrap_i64]; omega
        clear h7 h8 h9 h10 h11 h12 h13 h14 hbb hbn hk
        go_upto_region 8 with (fail)
        have HIa := Lib.hid (HI2.out.setIdx hd32 0)
        have HBa : Hid (But (· = ib) w (wr.setCell ⟨ib, 1 + d * 2 + 1, none⟩ (.int .i64 0))) := HB2.out.setCell (.inl rfl) _
        have HBb := Lib.hid (HBR.out)
        clear cd cv cx fd fx hc1 hn0
        generalize wr.setCell ⟨ib, 1 + d * 2 + 1, none⟩ (.int .i64 0) = X at HIa HBa ⊢
        obtain ⟨ar1, har1⟩ : ∃ ar1, ar1 = arr.setIfInBounds (1 + d * 2 + 1) (.int .i64 0) := ⟨_, rfl⟩
        rw [← har1] at HIa
        have HA1 := Lib.hid har1
        clear har1
        have hbb := HBa.out.at HBK.out.1 (HI.out.other HBK.out.1 (by decide))
        have hbn := HBa.out.at HBK.out.2.1 (HI.out.other HBK.out.2.1 (by decide))
        have hc1 := cell_at (j := 1) hbb rfl
        have hn0 := cell_at hbn HBK.out.2.2
        have cd := cell_at HIa.out.1 HIa.out.2.2.2.1
        have hd2 : d + 1 < 32 := by have := HRD2.out; omega
        obtain ⟨un, hun⟩ : ∃ u, ar1[1 + (d + 1) * 2]? = some u := ⟨_, Array.getElem?_eq_getElem (by have := HIa.out.2.1; omega)⟩
        have cn := cell_at HIa.out.1 hun
        have fn : X.frozen? ⟨ib, 1 + (d + 1) * 2, none⟩ = false := frozen_of_row _ _ _ _ _ HIa.out.1
        have hd3 : (d : Int) + 1 < 32 := by omega
        have hd4 : (0 : Int) ≤ (d : Int) + 1 := by omega
        have hdt : ((d : Int) + 1).toNat = d + 1 := by omega
        clear hbb hbn hun
        refine region_tail 16 (by kernel_rfl) (by kernel_rfl) ?_
        simp only [List.take_succ_cons, List.take_zero, List.drop_succ_cons, List.drop_zero]
        repeat still_step
        refine wpStill_nil ?_
        go_upto_region 0 with (fail)
        have HIb : Hid (ItB (X.setCell ⟨ib, 1 + (d + 1) * 2, none⟩ (.iface kt (.pointer (some ⟨kq, 0, none⟩)))).drew.drew ib mb (ar1.setIfInBounds (1 + (d + 1) * 2) (.iface kt (.pointer (some ⟨kq, 0, none⟩)))) (d : Int)) := HIa.out.setNode hd2 (.iface kt (.pointer (some ⟨kq, 0, none⟩)))
        have HBb2 : Hid (But (· = ib) w (X.setCell ⟨ib, 1 + (d + 1) * 2, none⟩ (.iface kt (.pointer (some ⟨kq, 0, none⟩)))).drew.drew) := (HBa.out.setCell (.inl rfl) _).drew.drew
        clear cd cn fn hc1 hn0
        generalize (X.setCell ⟨ib, 1 + (d + 1) * 2, none⟩ (.iface kt (.pointer (some ⟨kq, 0, none⟩)))).drew.drew = Y at HIb HBb2 ⊢
        have cd := cell_at HIb.out.1 HIb.out.2.2.2.1
        have fd : Y.frozen? ⟨ib, 65, none⟩ = false := frozen_of_row _ _ _ _ _ HIb.out.1
        go_wp2_with fail
        go_roundg (gk - 1)
        case measure => have := HR'.out; omega
        case rel =>
          have hr' := HR'.out
          have hsz := HIa.out.2.1
          have hsz2 := HIb.out.2.1
          have hsz0 := HI2.out.2.1
          refine ⟨d + 1, r', kid f0, c f0, tailD c (f0 + 1) ++ after, _, by omega, by have := HRD2.out; omega, HIb.out.setDep ((d : Int) + 1), ?_, ?_, ?_, HBb2.out.setCell (.inl rfl) _⟩
          · rw [Array.getElem?_setIfInBounds_ne (by omega), Array.getElem?_setIfInBounds_self_of_lt (by omega), HKL.out]
          · refine low_down (x := 0) (v := .iface 252 (.pointer (some ⟨b, 0, none⟩))) (arr := arr) (by rw [← hr', ← HES.out]; exact HL2.out) (fun j hj => ?_) ?_ ?_ ⟨HK.out.1, HK.out.2, .inl ⟨HBR.out, HF.out.2.1.symm⟩⟩ hf0 HF.out.1
            · rw [Array.getElem?_setIfInBounds_ne (by omega), Array.getElem?_setIfInBounds_ne (by omega), HA1.out, Array.getElem?_setIfInBounds_ne (by omega)]
            · rw [Array.getElem?_setIfInBounds_ne (by omega), Array.getElem?_setIfInBounds_ne (by omega), HA1.out, Array.getElem?_setIfInBounds_ne (by omega)]
              exact HV2.out
            · rw [Array.getElem?_setIfInBounds_ne (by omega), Array.getElem?_setIfInBounds_ne (by omega), HA1.out, Array.getElem?_setIfInBounds_self_of_lt (by omega)]
              rfl
          · rw [HREST2.out, HES.out, cat_from hf0 HF.out.2.2, List.append_assoc]
      · have HBR := Lib.hid hbr
        obtain ⟨b, ar, rfl, h7, h8, h9, h10, h11⟩ := hbr
        have hbb := HB2.out.at h7 (HI.out.other h7 (by decide))
        have HBK := Lib.hid (And.intro h7 (And.intro h8 h10))
        have t1 := as256_252 b
        have t2 := as256_256 b
        have hw : IntKind.i64.wrap ((d : Int) + 1) = (d : Int) + 1 := by rw [IntKind.wrap_i64]; omega
        clear h7 h8 h9 h10 h11 hbb
        go_wp2_with fail
        obtain ⟨wo, rfl⟩ : ∃ wo : World, wo = wr := ⟨_, rfl⟩
        go_loopg [5] f0 (fun k v wr => ∃ i : Nat, i + k = f0 ∧ v = .int .i64 (i : Int) ∧ wr = wo.drew)
        case atStart => exact ⟨0, by omega, rfl, rfl⟩
        case round =>
          obtain ⟨i, hik, rfl, rfl⟩ := hrel
          have hi32 : i < 32 := by omega
          have h1 : decide ((i : Int) < 32) = true := by simp; omega
          have hi0 : (0 : Int) ≤ (i : Int) := by omega
          have hi1 : (i : Int) < 32 := by omega
          have hbb := HB2.out.at HBK.out.1 (HI.out.other HBK.out.1 (by decide))
          by_cases hlt : i < f0
          · have hkn : kid i = .nilIface := HK.out.1 i hi32 (HF.out.2.2 i hlt)
            have hci : wo.cell? ⟨b, 1 + i, none⟩ = some .nilIface := cell_at hbb (by rw [HBK.out.2.2 i hi32, hkn])
            have hw1 : IntKind.i64.wrap ((i : Int) + 1) = (i : Int) + 1 := by rw [IntKind.wrap_i64]; omega
            clear hbb hkn
            go_wp2_with fail
            go_roundg (gk - 1)
            case measure => omega
            case rel => exact ⟨i + 1, by omega, rfl, rfl⟩
          · obtain rfl : i = f0 := by omega
            have hci : wo.cell? ⟨b, 1 + i, none⟩ = some (.iface kt (.pointer (some ⟨kq, 0, none⟩))) := cell_at hbb (by rw [HBK.out.2.2 i hi32, HKL.out])
            clear hbb hlt hik
            go_upto_region 16 with (fail)
            have HIa := Lib.hid (HI2.out.setIdx hd32 (i : Int))
            have HBa : Hid (But (· = ib) w (wo.setCell ⟨ib, 1 + d * 2 + 1, none⟩ (.int .i64 (i : Int)))) := HB2.out.setCell (.inl rfl) _
            clear cd cv cx fd fx hci
            generalize wo.setCell ⟨ib, 1 + d * 2 + 1, none⟩ (.int .i64 (i : Int)) = X at HIa HBa ⊢
            obtain ⟨ar1, har1⟩ : ∃ ar1, ar1 = arr.setIfInBounds (1 + d * 2 + 1) (.int .i64 (i : Int)) := ⟨_, rfl⟩
            rw [← har1] at HIa
            have HA1 := Lib.hid har1
            clear har1
            have hbb := HBa.out.at HBK.out.1 (HI.out.other HBK.out.1 (by decide))
            have hci : X.cell? ⟨b, 1 + i, none⟩ = some (.iface kt (.pointer (some ⟨kq, 0, none⟩))) := cell_at hbb (by rw [HBK.out.2.2 i hi32, HKL.out])
            have cd := cell_at HIa.out.1 HIa.out.2.2.2.1
            have hd2 : d + 1 < 32 := by have := HRD2.out; have := HR'.out; omega
            obtain ⟨un, hun⟩ : ∃ u, ar1[1 + (d + 1) * 2]? = some u := ⟨_, Array.getElem?_eq_getElem (by have := HIa.out.2.1; omega)⟩
            have cn := cell_at HIa.out.1 hun
            have fn : X.frozen? ⟨ib, 1 + (d + 1) * 2, none⟩ = false := frozen_of_row _ _ _ _ _ HIa.out.1
            have hd3 : (d : Int) + 1 < 32 := by omega
            have hd4 : (0 : Int) ≤ (d : Int) + 1 := by omega
            have hdt : ((d : Int) + 1).toNat = d + 1 := by omega
            clear hbb hun
            refine region_tail 16 (by kernel_rfl) (by kernel_rfl) ?_
            simp only [List.take_succ_cons, List.take_zero, List.drop_succ_cons, List.drop_zero]
            repeat still_step
            refine wpStill_nil ?_
            go_upto_region 0 with (fail)
            have HIb : Hid (ItB (X.setCell ⟨ib, 1 + (d + 1) * 2, none⟩ (.iface kt (.pointer (some ⟨kq, 0, none⟩)))).drew.drew ib mb (ar1.setIfInBounds (1 + (d + 1) * 2) (.iface kt (.pointer (some ⟨kq, 0, none⟩)))) (d : Int)) := HIa.out.setNode hd2 (.iface kt (.pointer (some ⟨kq, 0, none⟩)))
            have HBb2 : Hid (But (· = ib) w (X.setCell ⟨ib, 1 + (d + 1) * 2, none⟩ (.iface kt (.pointer (some ⟨kq, 0, none⟩)))).drew.drew) := (HBa.out.setCell (.inl rfl) _).drew.drew
            clear cd cn fn hci
            generalize (X.setCell ⟨ib, 1 + (d + 1) * 2, none⟩ (.iface kt (.pointer (some ⟨kq, 0, none⟩)))).drew.drew = Y at HIb HBb2 ⊢
            have cd := cell_at HIb.out.1 HIb.out.2.2.2.1
            have fd : Y.frozen? ⟨ib, 65, none⟩ = false := frozen_of_row _ _ _ _ _ HIb.out.1
            go_wp2_with fail
            go_roundg r'
            case measure => have := HR'.out; omega
            case rel =>
              have hr' := HR'.out
              have hsz := HIa.out.2.1
              have hsz2 := HIb.out.2.1
              have hsz0 := HI2.out.2.1
              refine ⟨d + 1, r', kid i, c i, tailD c (i + 1) ++ after, _, rfl, by have := HRD2.out; omega, HIb.out.setDep ((d : Int) + 1), ?_, ?_, ?_, HBb2.out.setCell (.inl rfl) _⟩
              · rw [Array.getElem?_setIfInBounds_ne (by omega), Array.getElem?_setIfInBounds_self_of_lt (by omega), HKL.out]
              · refine low_down (x := i) (v := .iface 256 (.pointer (some ⟨b, 0, none⟩))) (arr := arr) (by rw [← hr', ← HES.out]; exact HL2.out) (fun j hj => ?_) ?_ ?_ ⟨HK.out.1, HK.out.2, .inr ⟨HBR.out, rfl⟩⟩ hf0 HF.out.1
                · rw [Array.getElem?_setIfInBounds_ne (by omega), Array.getElem?_setIfInBounds_ne (by omega), HA1.out, Array.getElem?_setIfInBounds_ne (by omega)]
                · rw [Array.getElem?_setIfInBounds_ne (by omega), Array.getElem?_setIfInBounds_ne (by omega), HA1.out, Array.getElem?_setIfInBounds_ne (by omega)]
                  exact HV2.out
                · rw [Array.getElem?_setIfInBounds_ne (by omega), Array.getElem?_setIfInBounds_ne (by omega), HA1.out, Array.getElem?_setIfInBounds_self_of_lt (by omega)]
              · rw [HREST2.out, HES.out, cat_from hf0 HF.out.2.2, List.append_assoc]
end Go.Proofs.Ytpkndcmgialgcaa
