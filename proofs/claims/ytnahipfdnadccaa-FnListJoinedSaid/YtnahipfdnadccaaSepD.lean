/- append in place to a list whose blocks are the call's own; NewList of any values. Conditions of this file: none. -/
import Derived.Test.YtnahipfdnadccaaSepC
import Derived.Test.YtnahipfdnadccaaEqual
namespace Go.Proofs.Ytnahipfdnadccaa
open Go.RowKit

/-- v is a list of the numbers xs, all of it in blocks from B on, no block of it on two ways -/
def SList (B : Nat) (w : World) (v : Value) (n : Nat) (xs : List Int) : Prop :=
  ∃ (b d o p : Nat) (S : Nat → Prop), v = .pointer (some ⟨b, 0, none⟩) ∧ B ≤ b ∧ (∀ x, S x → B ≤ x ∧ x ≠ b) ∧ w.heap[b]? = some (.cells #[.iface (ty d) (.pointer (some ⟨p, 0, none⟩)), .int .i64 (o : Int), .int .i64 (xs.length : Int)] 113 (0, 0)) ∧
    SNode w d S (.iface (ty d) (.pointer (some ⟨p, 0, none⟩))) (win o xs) ∧ Dep n d o xs.length

theorem SList.list {B : Nat} {w : World} {v : Value} {n : Nat} {xs : List Int} (h : SList B w v n xs) : IsList w v n xs := by
  obtain ⟨b, d, o, p, S, rfl, _, _, h1, h2, h3⟩ := h
  exact ⟨b, d, o, rfl, p, h1, h2.node.inS fun _ _ _ => trivial, h3⟩
theorem SList.stay {B : Nat} {w w' : World} {v : Value} {n : Nat} {xs : List Int} (h : SList B w v n xs) (s : Stay w w') : SList B w' v n xs := by
  obtain ⟨b, d, o, p, S, rfl, k1, k2, h1, h2, h3⟩ := h
  exact ⟨b, d, o, p, S, rfl, k1, k2, s b _ 113 h1 (.inr (.inr (.inl rfl))), h2.stay s, h3⟩

/-- the post of a step in place -/
def SPost (B : Nat) (w : World) (v : Value) (n : Nat) (xs : List Int) (e : Ending) (w' : World) : Prop := e = .returned v ∧ SList B w' v n xs ∧ Below B w w'

theorem smut_end {B b d o n p : Nat} {w W V : World} {r : Value} {s : Int} {S : Nat → Prop} {g : Nat → Option Int} {xs : List Int} (hB : B ≤ W.heap.size) (hb : B ≤ b) (hS : ∀ x, S x → B ≤ x ∧ x ≠ b) (hbW : b < W.heap.size)
    (hW : But (fun x => B ≤ x) w W) (hV : But S W V) (hn : SNode V d (New S W) (.iface (ty d) (.pointer (some ⟨p, 0, none⟩))) g)
    (hh : V.heap[b]? = some (.cells #[r, .int .i64 (o : Int), .int .i64 s] 113 (0, 0))) (hs : s = (xs.length : Int)) (hg : ∀ j y, win o xs j = some y → g j = some y) (hD : Dep n d o xs.length) (hBw : B ≤ w.heap.size) :
    SPost B w (.pointer (some ⟨b, 0, none⟩)) n xs (.returned (.pointer (some ⟨b, 0, none⟩))) (V.setCell ⟨b, 0, none⟩ (.iface (ty d) (.pointer (some ⟨p, 0, none⟩)))) := by
  subst hs
  have hset : But (· = b) V (V.setCell ⟨b, 0, none⟩ (.iface (ty d) (.pointer (some ⟨p, 0, none⟩)))) := (But.refl (· = b) V).setCell (p := ⟨b, 0, none⟩) (.inl rfl) _
  have hne : ∀ x, New S W x → B ≤ x ∧ x ≠ b := fun x hx => hx.elim (hS x) fun h => ⟨Nat.le_trans hB h, by omega⟩
  refine ⟨rfl, ⟨b, d, o, p, New S W, rfl, hb, hne, head_set0 hh _, ?_, hD⟩, ?_⟩
  · exact SNode.mono _ _ _ _ _ (hn.but hset fun x hx he => (hne x hx).2 he) fun j y _ hy => hg j y hy
  · exact (((hW.trans (hV.wider fun x _ hx => (hS x hx).1)).trans (hset.wider fun x _ hx => by subst hx; exact hb))).below hBw fun _ h => h

theorem append_smut {B : Nat} {w : World} {v : Value} {n : Nat} {xs : List Int} (x : Int) (h : SList B w v n xs) (hB : B ≤ w.heap.size) (hn : n < 33554431) :
    Calls Try.prog 66 #[v, .int .i64 x, .bool true] w (SPost B w v (n + 1) (xs ++ [x])) := by
  obtain ⟨b, d, o, p, S, rfl, hb, hS, h1, h2, h3⟩ := h
  have hat : ListAt w b n d o xs := ⟨p, h1, h2.node.inS fun _ _ _ => trivial, h3⟩
  have hbw : b < w.heap.size := lt_of_block h1
  have h2c : SNode w d (fun x => S x ∧ x < w.heap.size) (.iface (ty d) (.pointer (some ⟨p, 0, none⟩))) (win o xs) := h2.inS fun x h1 h2 => ⟨h1, h2⟩
  have hSc : ∀ x, (S x ∧ x < w.heap.size) → B ≤ x ∧ x ≠ b := fun x hx => hS x hx.1
  have hp := pow_le8 h3.2.2.1
  have hle := h3.2.1
  have hd7 := h3.2.2.1
  have hlocal : ∀ D, d ≤ D → loc ((o : Int) + xs.length) D = o + xs.length ∨ o + xs.length = 32 ^ (d + 1) := fun D hD => by
    rcases Nat.lt_or_ge (o + xs.length) (32 ^ (d + 1)) with h | h
    · left
      have e : ((o : Int) + xs.length) = ((o + xs.length : Nat) : Int) := by omega
      rw [e]
      exact loc_nat _ _ (Nat.lt_of_lt_of_le h (Nat.pow_le_pow_right (by decide) (by omega)))
    · right; omega
  rcases Nat.lt_or_ge (xs.length + o) (32 ^ d) with hlt | hge
  · have hloc : loc ((o : Int) + xs.length) d = o + xs.length := by
      rcases hlocal d (Nat.le_refl _) with h | h
      · exact h
      · have e : (32 : Nat) ^ (d + 1) = 32 ^ d * 32 := Nat.pow_succ _ _
        have := pos32 d
        omega
    refine (append_mut_w b p (fn 93 103 d) (ty d) o xs.length (32 ^ d) x w (fun W q V => q = p ∧ SNode V d (New (fun x => S x ∧ x < w.heap.size) W) (.iface (ty d) (.pointer (some ⟨p, 0, none⟩))) (upd (win o xs) (o + xs.length) x) ∧ But (fun x => S x ∧ x < w.heap.size) W V) (by omega) hlt h1
      (fun w' hb' hh => cap_any (n := n) (d := d) (o := o) (xs := xs) ⟨p, hh, ((h2c.but hb' fun x hx he => (hSc x hx).2 he).node).inS fun _ _ _ => trivial, h3⟩) (disp_ty disp_set0 disp_set1 d) (fun w' hb' => ?_)).mono ?_
    · have := set_mut ((o : Int) + xs.length) x d _ w' p _ (by omega) (h2c.but hb' fun x hx he => (hSc x hx).2 he)
      rw [hloc] at this
      refine this.mono ?_
      rintro e w'' ⟨rfl, k1, k2⟩
      exact ⟨p, rfl, ⟨rfl, k1, k2⟩, k2.block b (Nat.lt_of_lt_of_le hbw hb'.size) fun h => (hSc b h).2 rfl⟩
    · rintro e w' ⟨rfl, q, W, V, hW, ⟨rfl, hn', hV⟩, hh, rfl⟩
      refine smut_end (Nat.le_trans hB hW.size) hb hSc (Nat.lt_of_lt_of_le hbw hW.size) (hW.wider fun x _ hx => by subst hx; exact hb) hV hn' hh (by simp) (fun j y hy => ?_) (by simpa using dep_append_room h3 hlt hn) hB
      rw [win_append] at hy; exact hy
  · have hD := dep_append_grow h3 hge hn
    have hd6 : d ≤ 6 := by have := hD.2.2.1; omega
    have hloc : loc ((o : Int) + xs.length) (d + 1) = o + xs.length := by
      have e : ((o : Int) + xs.length) = ((o + xs.length : Nat) : Int) := by omega
      rw [e]
      have e2 : (32 : Nat) ^ (d + 1 + 1) = 32 ^ (d + 1) * 32 := Nat.pow_succ _ _
      have := pos32 (d + 1)
      exact loc_nat _ _ (by omega)
    refine (append_gmut_w b d p 103 (fn 91 101 d) (ty d) o xs.length (32 ^ d) x w (fun W q V => ∃ N, q = N ∧ w.heap.size ≤ N ∧ SNode V (d + 1) (New (fun x => (S x ∧ x < w.heap.size) ∨ x = N) W) (.iface 122 (.pointer (some ⟨N, 0, none⟩))) (upd (win o xs) (o + xs.length) x) ∧ But (fun x => (S x ∧ x < w.heap.size) ∨ x = N) W V)
      (by omega) (by omega) hge h1 (fun w' hb' => cap_any (hat.stay (Stay.of_below hb'))) (disp_ty disp_depth0 disp_depth1 d)
      (fun w' hb' => depth_any (Node.stay (Stay.of_below hb') _ _ _ h2.node)) disp_set1 (fun w' N hb' hNN hN => ?_)).mono ?_
    · have hr : SNode w' (d + 1) (fun x => (S x ∧ x < w.heap.size) ∨ x = N) (.iface 122 (.pointer (some ⟨N, 0, none⟩))) (win o xs) := by
        refine snew_root (S := fun x => S x ∧ x < w.heap.size) hN (by omega) (fun h => by have := h.2; omega) (h2c.but hb' fun x hx he => (hSc x hx).2 he) (fun j y hj hy => by rw [Nat.zero_mul, Nat.zero_add] at hy; exact hy) fun k j hk hk0 hj => ?_
        apply win_none
        have : 1 * 32 ^ (d + 1) ≤ k * 32 ^ (d + 1) := Nat.mul_le_mul_right _ (by omega)
        omega
      have := set_mut ((o : Int) + xs.length) x (d + 1) _ w' N _ (by omega) hr
      rw [hloc] at this
      refine this.mono ?_
      rintro e w'' ⟨rfl, k1, k2⟩
      refine ⟨N, rfl, ⟨N, rfl, hNN, k1, k2⟩, k2.block b (Nat.lt_of_lt_of_le hbw hb'.size) fun h => ?_⟩
      rcases h with h | h
      · exact (hSc b h).2 rfl
      · omega
    · rintro e w' ⟨rfl, q, W, V, r, hW, ⟨N, rfl, hNN, hn', hV⟩, hh, rfl⟩
      refine smut_end (d := d + 1) (Nat.le_trans hB hW.size) hb (fun x hx => ?_) (Nat.lt_of_lt_of_le hbw hW.size) (hW.wider fun x _ hx => by subst hx; exact hb) hV hn' hh (by simp) (fun j y hy => ?_) (by simpa using hD) hB
      · rcases hx with hx | hx
        · exact hSc x hx
        · subst hx; exact ⟨Nat.le_trans hB hNN, by omega⟩
      · rw [win_append] at hy; exact hy

theorem fresh_slist (w : World) : SList w.heap.size (fresh w) (.pointer (some ⟨w.heap.size + 1, 0, none⟩)) 0 [] :=
  ⟨w.heap.size + 1, 0, 0, w.heap.size, fun x => x = w.heap.size, rfl, by omega, fun x hx => ⟨by omega, by omega⟩, fresh_head w, fresh_node _ w rfl, by simp [Dep]⟩

set_option maxRecDepth 100000 in
set_option maxHeartbeats 800000 in
/-- NewList of any values -/
theorem new_list (sv : Value) (xs : List Int) (w : World) (hs : SlV w sv (xs.map (Value.int .i64))) (hn : xs.length < 33554431) : Calls Try.prog 55 #[sv] w (ListPost w xs.length xs) := by
  obtain ⟨a, c, rfl, hcells⟩ := hs
  have HCE := Lib.hid hcells
  have HF : Hid (SList w.heap.size (fresh w) (.pointer (some ⟨w.heap.size + 1, 0, none⟩)) 0 [] ∧ Below w.heap.size w (fresh w)) := ⟨fresh_slist w, fresh_below w⟩
  have HN := Lib.hid hn
  clear hcells hn
  rw [List.length_map]
  go_enter Try.func55, Try.ntmps55
  go_wp2_with fail
  change Code.wp _ _ _ _ (fresh w)
  go_loopg [5, 13] xs.length (fun k v5 v wr => ∃ j : Nat, j + k = xs.length ∧ v = .int .i64 (j : Int) ∧ SList w.heap.size wr (.pointer (some ⟨w.heap.size + 1, 0, none⟩)) j (xs.take j) ∧ Below w.heap.size w wr)
  case atStart => exact ⟨0, by omega, rfl, HF.out.1, HF.out.2⟩
  case round =>
    obtain ⟨j, hjk, rfl, hl, hb⟩ := hrel
    have HL := Lib.hid hl
    have HB := Lib.hid hb
    clear hl hb HF
    have hw1 : IntKind.i64.wrap ((j : Int) + 1) = (j : Int) + 1 := by have := HN.out; rw [IntKind.wrap_i64]; omega
    by_cases hlt : j < xs.length
    · have h1 : decide ((j : Int) < (xs.length : Int)) = true := by simp; omega
      obtain ⟨x, hx⟩ : ∃ x, xs[j]? = some x := ⟨xs[j], List.getElem?_eq_getElem hlt⟩
      obtain ⟨g, o, rfl, hc⟩ := HCE.out j (.int .i64 x) (by rw [List.getElem?_map, hx]; rfl)
      have hc' : wr.cell? ⟨g, o + j, none⟩ = some (.int .i64 x) := (HB.out.cell (World.block_lt_of_cell? w _ hc)).trans hc
      have HX := Lib.hid hx
      clear hc hx
      go_wp2_with fail
      refine (append_smut x HL.out HB.out.size (by have := HN.out; omega)).mono ?_
      rintro e w' ⟨rfl, hl, hb⟩
      have HL2 := Lib.hid hl
      have HB2 := Lib.hid hb
      clear hl hb
      go_wp2_with fail
      go_roundg (gk - 1)
      case measure => omega
      case rel =>
        refine ⟨j + 1, by omega, rfl, ?_, HB.out.trans HB2.out⟩
        rw [List.take_add_one, HX.out]
        exact HL2.out
    · have h1 : decide ((j : Int) < (xs.length : Int)) = false := by simp; omega
      have hj : j = xs.length := by omega
      subst hj
      go_wp2_with fail
      go_ret
      refine ⟨_, rfl, ?_, HB.out⟩
      have := HL.out.list
      rw [List.take_length] at this
      exact this

end Go.Proofs.Ytnahipfdnadccaa
