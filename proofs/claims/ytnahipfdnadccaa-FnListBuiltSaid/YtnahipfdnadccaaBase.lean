/- The plain words of the list proofs: what a list's tree in memory holds, and what keeps it. No walk here. -/
import Derived.Test.YtnahipfdnadccaaProg
import Derived.WalkKit
import Derived.WalkSpells
import Derived.WalkLawsBesides
import Derived.Lib.Hide
import Derived.Laws.BitsAllLaws
import Derived.Laws.NewBlocks
import Derived.Deep.WholeRow
import Derived.StillTailTactics
namespace Go.Proofs.Ytnahipfdnadccaa
open Go.RowKit

/- numbers -/
theorem mask31 (i : Int) : bits BinOp.and IntKind.i64 i 31 = i % 32 := by
  unfold bits
  simp
  have h : (31 : Nat) % 2 ^ IntKind.i64.bits = 31 := by decide
  rw [h, nat_mask5]
  have e : IntKind.i64.bits = 64 := rfl
  rw [e]
  have h1 : ((i % 2 ^ 64).toNat % 32 : Nat) = (i % 32).toNat := by
    have : (2:Int)^64 = 18446744073709551616 := by decide
    omega
  rw [h1, IntKind.wrap_i64]
  omega

theorem pow25 (d : Nat) : (2 : Int) ^ (d * 5) = 32 ^ d := by
  rw [Nat.mul_comm, Int.pow_mul]; rfl

/-- which child of a branch of depth d an index lies in -/
def slot (i : Int) (d : Nat) : Nat := ((i / 32 ^ d) % 32).toNat
theorem slot_lt (i : Int) (d : Nat) : slot i d < 32 := by unfold slot; omega
theorem slot_eq (i : Int) (d : Nat) : bits BinOp.and IntKind.i64 (i / 2 ^ (d * 5)) 31 = (slot i d : Nat) := by
  rw [mask31, pow25]; unfold slot; omega
theorem slot0 (i : Int) : bits BinOp.and IntKind.i64 i 31 = (slot i 0 : Nat) := by
  rw [mask31]; unfold slot; simp; omega

/-- the index within a node of depth d -/
def loc (i : Int) (d : Nat) : Nat := (i % 32 ^ (d + 1)).toNat

theorem pos32 (d : Nat) : 0 < 32 ^ d := Nat.pow_pos (by decide)
theorem cast32 (d : Nat) : ((32 ^ d : Nat) : Int) = (32 : Int) ^ d := by simp
theorem loc_lt (i : Int) (d : Nat) : loc i d < 32 ^ (d + 1) := by
  unfold loc
  have h := pos32 (d + 1)
  have e := cast32 (d + 1)
  rw [← e]
  have h1 := Int.emod_lt_of_pos i (b := ((32 ^ (d + 1) : Nat) : Int)) (by omega)
  have h2 := Int.emod_nonneg i (b := ((32 ^ (d + 1) : Nat) : Int)) (by omega)
  omega
theorem loc0 (i : Int) : loc i 0 = slot i 0 := by unfold loc slot; simp
theorem loc_succ (i : Int) (d : Nat) : loc i (d + 1) = slot i (d + 1) * 32 ^ (d + 1) + loc i d := by
  unfold loc slot
  have h := pos32 (d + 1)
  rw [← cast32 (d + 1), ← cast32 (d + 1 + 1)]
  have e : (32 ^ (d + 1 + 1) : Nat) = 32 ^ (d + 1) * 32 := Nat.pow_succ _ _
  rw [e]
  generalize 32 ^ (d + 1) = M at *
  have hM : (0 : Int) < (M : Int) := by omega
  have key : i % ((M * 32 : Nat) : Int) = (i / M % 32) * M + i % M := by
    rw [Int.natCast_mul]
    have h1 := Int.emod_def i (M * (32 : Int))
    have h2 := Int.emod_def i M
    have h3 := Int.emod_def (i / M) 32
    have h4 : i / (M * (32 : Int)) = i / M / 32 := by rw [Int.ediv_ediv_of_nonneg (by omega)]
    rw [h4] at h1
    have h5 : ((32 : Nat) : Int) = 32 := rfl
    rw [h5, h1, h2, h3]
    rw [Int.sub_mul, Int.mul_comm (i / M) (M : Int), Int.mul_assoc, Int.mul_comm (32 * (i / M / 32)) (M : Int)]
    omega
  rw [key]
  have h1 := Int.emod_nonneg i (b := (M : Int)) (by omega)
  have h2 : 0 ≤ i / M % 32 := by omega
  have h3 : 0 ≤ (i / M % 32) * (M : Int) := Int.mul_nonneg h2 (by omega)
  rw [Int.toNat_add h3 h1, Int.toNat_mul h2 (by omega)]
  simp
theorem loc_nat (i d : Nat) (h : i < 32 ^ (d + 1)) : loc (i : Int) d = i := by
  unfold loc
  rw [← cast32 (d + 1)]
  have : (i : Int) % ((32 ^ (d + 1) : Nat) : Int) = (i : Int) := Int.emod_eq_of_lt (by omega) (by omega)
  rw [this]; omega

/- memory -/
/-- the blocks of a list's own kinds (a leaf, a branch, a list's head) stand as they stood -/
def Stay (w w' : World) : Prop := ∀ (b : Nat) (c : Array Value) (t : TypeId), w.heap[b]? = some (Obj.cells c t (0, 0)) → (t = 110 ∨ t = 125 ∨ t = 113 ∨ t = 144) → w'.heap[b]? = some (Obj.cells c t (0, 0))
theorem Stay.refl (w : World) : Stay w w := fun _ _ _ h _ => h
theorem Stay.trans {a b c : World} (h : Stay a b) (k : Stay b c) : Stay a c := fun b x t h1 h2 => k b x t (h b x t h1 h2) h2
theorem lt_of_block {w : World} {b : Nat} {o : Obj} (h : w.heap[b]? = some o) : b < w.heap.size := by
  rcases Nat.lt_or_ge b w.heap.size with h1 | h1
  · exact h1
  · rw [Array.getElem?_eq_none h1] at h; cases h
theorem Stay.of_below {w w' : World} (h : Below w.heap.size w w') : Stay w w' := fun b c t h1 _ => by rw [h.block b (lt_of_block h1)]; exact h1

/-- v is a leaf (in a block of S), and where f says a number it stands there -/
def Leaf (S : Nat → Prop) (w : World) (v : Value) (f : Nat → Option Int) : Prop :=
  ∃ (b : Nat) (arr : Array Value) (occ : Int), v = .iface 111 (.pointer (some ⟨b, 0, none⟩)) ∧ w.heap[b]? = some (.cells arr 110 (0, 0)) ∧ arr.size = 33 ∧
    arr[32]? = some (.int .u32 occ) ∧ 0 ≤ occ ∧ occ < 4294967296 ∧ (∀ k, k < 32 → ∃ x, arr[k]? = some (.int .i64 x) ∧ ∀ y, f k = some y → y = x) ∧ S b

/-- v is a node of depth d, all of it in blocks of S, and where f says a number it stands there -/
def Node (S : Nat → Prop) (w : World) : Nat → Value → (Nat → Option Int) → Prop
  | 0, v, f => Leaf S w v f
  | d + 1, v, f => ∃ (b : Nat) (arr : Array Value), v = .iface 122 (.pointer (some ⟨b, 0, none⟩)) ∧ w.heap[b]? = some (.cells arr 125 (0, 0)) ∧ arr.size = 33 ∧
    arr[0]? = some (.int .u64 ((d + 1 : Nat) : Int)) ∧ (∀ k, k < 32 → ∃ c, arr[1 + k]? = some c ∧
      ((c = .nilIface ∧ ∀ j, j < 32 ^ (d + 1) → f (k * 32 ^ (d + 1) + j) = none) ∨ Node S w d c (fun j => f (k * 32 ^ (d + 1) + j)))) ∧ S b

theorem Node.stayS {S S' : Nat → Prop} {w w' : World} (h : ∀ (b : Nat) (c : Array Value) (t : TypeId), S b → w.heap[b]? = some (Obj.cells c t (0, 0)) → (t = 110 ∨ t = 125) → w'.heap[b]? = some (Obj.cells c t (0, 0)))
    (hS : ∀ b, S b → b < w.heap.size → S' b) : ∀ (d : Nat) (v : Value) (f : Nat → Option Int), Node S w d v f → Node S' w' d v f
  | 0, v, f, ⟨b, arr, occ, h1, h2, h3, h4, h5, h6, h7, h8⟩ => ⟨b, arr, occ, h1, h b arr 110 h8 h2 (.inl rfl), h3, h4, h5, h6, h7, hS b h8 (lt_of_block h2)⟩
  | d + 1, v, f, ⟨b, arr, h1, h2, h3, h4, h5, h8⟩ => ⟨b, arr, h1, h b arr 125 h8 h2 (.inr rfl), h3, h4, fun k hk => by
      obtain ⟨c, hc, h6⟩ := h5 k hk
      refine ⟨c, hc, ?_⟩
      rcases h6 with h6 | h6
      · exact .inl h6
      · exact .inr (Node.stayS h hS d c _ h6), hS b h8 (lt_of_block h2)⟩

theorem Node.stay {S : Nat → Prop} {w w' : World} (h : Stay w w') (d : Nat) (v : Value) (f : Nat → Option Int) (n : Node S w d v f) : Node S w' d v f :=
  Node.stayS (fun b c t _ h1 h2 => h b c t h1 (by rcases h2 with h2 | h2 <;> simp [h2])) (fun _ h _ => h) d v f n
theorem Node.inS {S S' : Nat → Prop} {w : World} {d : Nat} {v : Value} {f : Nat → Option Int} (n : Node S w d v f) (h : ∀ b, S b → b < w.heap.size → S' b) : Node S' w d v f :=
  Node.stayS (fun _ _ _ _ h1 _ => h1) h d v f n

theorem Node.mono {S : Nat → Prop} {w : World} : ∀ (d : Nat) (v : Value) (f g : Nat → Option Int), Node S w d v f → (∀ j y, j < 32 ^ (d + 1) → g j = some y → f j = some y) → Node S w d v g
  | 0, v, f, g, ⟨b, arr, occ, h1, h2, h3, h4, h5, h6, h7, h8⟩, h => ⟨b, arr, occ, h1, h2, h3, h4, h5, h6, fun k hk => by
      obtain ⟨x, hx, hy⟩ := h7 k hk
      exact ⟨x, hx, fun y hg => hy y (h k y (by omega) hg)⟩, h8⟩
  | d + 1, v, f, g, ⟨b, arr, h1, h2, h3, h4, h5, h8⟩, h => ⟨b, arr, h1, h2, h3, h4, fun k hk => by
      obtain ⟨c, hc, h6⟩ := h5 k hk
      have hb : ∀ j, j < 32 ^ (d + 1) → k * 32 ^ (d + 1) + j < 32 ^ (d + 1 + 1) := fun j hj => by
        have e : (32 ^ (d + 1 + 1) : Nat) = 32 ^ (d + 1) * 32 := Nat.pow_succ _ _
        rw [e]
        have : (k + 1) * 32 ^ (d + 1) ≤ 32 * 32 ^ (d + 1) := Nat.mul_le_mul_right _ (by omega)
        rw [Nat.add_mul, Nat.one_mul] at this
        rw [Nat.mul_comm (32 ^ (d + 1)) 32]
        omega
      refine ⟨c, hc, ?_⟩
      rcases h6 with ⟨h6, h7⟩ | h6
      · refine .inl ⟨h6, fun j hj => ?_⟩
        cases hg : g (k * 32 ^ (d + 1) + j) with
        | none => rfl
        | some y => have := h _ y (hb j hj) hg; rw [h7 j hj] at this; cases this
      · exact .inr (Node.mono d c _ _ h6 fun j y hj hg => h _ y (hb j hj) hg), h8⟩

/-- a block of S, or one that is new behind w -/
def New (S : Nat → Prop) (w : World) (b : Nat) : Prop := S b ∨ w.heap.size ≤ b

/-- what a list of numbers xs that begins at o says of the places -/
def win (o : Nat) (xs : List Int) (j : Nat) : Option Int := if o ≤ j then xs[j - o]? else none
def upd (f : Nat → Option Int) (i : Nat) (x : Int) (j : Nat) : Option Int := if j = i then some x else f j

theorem upd_shift (f : Nat → Option Int) (m i k : Nat) (x : Int) : (fun j => upd f (k * m + i) x (k * m + j)) = upd (fun j => f (k * m + j)) i x := by
  funext j
  unfold upd
  by_cases h : j = i
  · rw [if_pos h, if_pos (by omega)]
  · rw [if_neg h, if_neg (by omega)]
theorem upd_other (f : Nat → Option Int) (m i k k' : Nat) (x : Int) (hk : k ≠ k') (hi : i < m) (j : Nat) (hj : j < m) : upd f (k * m + i) x (k' * m + j) = f (k' * m + j) := by
  unfold upd
  rw [if_neg]
  intro h
  apply hk
  have h1 : (k' * m + j) / m = k' := by rw [Nat.mul_comm, Nat.mul_add_div (by omega), Nat.div_eq_of_lt hj]; omega
  have h2 : (k * m + i) / m = k := by rw [Nat.mul_comm, Nat.mul_add_div (by omega), Nat.div_eq_of_lt hi]; omega
  rw [← h1, ← h2, h]

/- laws for the walks -/
theorem region_tail {P : Program} {id : Nat} {Q : Exit → Act → World → Prop} {a : Act} {w : World} {l : List Oper} (n : Nat) (hm : P.follows .mixedOrders = true) (hB : Region.lexTailB .any l.toArray n = true)
    (h : wpStill P l.toArray w.drew (fun a' => wpList P l.toArray Q (l.drop n) a' w.drew) (l.take n) a) : (Code.region id l.toArray true).wp P Q a w :=
  wp_region_still_tail n hm hB h

theorem size110 : (Try.prog.info? 110).map (·.size) = some 33 := by kernel_rfl
theorem size125 : (Try.prog.info? 125).map (·.size) = some 33 := by kernel_rfl
theorem size113 : (Try.prog.info? 113).map (·.size) = some 3 := by kernel_rfl

/-- one word of an interface's call: the nil check, the method, the call -/
def Disp (t fid : Nat) (name : String) : Prop :=
  (∀ (a : Addr) (w : World), (nilAhead 248 t (.pointer (some a)) name).run Try.prog w = .ok (some false) w) ∧
  (∀ (a : Addr) (w : World), (method 248 t (.pointer (some a)) name).run Try.prog w = .ok (fid, .pointer (some a)) w) ∧
  (∀ (args : Array Value) (w : World), (callFunc fid args).run Try.prog w = .ok (.enter fid args) w)
theorem disp_containsAfter0 : Disp 111 87 "pub-frond/pub/immutable.containsAfter" := ⟨fun a w => by kernel_rfl, fun a w => by kernel_rfl, fun a w => by kernel_rfl⟩
theorem disp_containsAfter1 : Disp 122 97 "pub-frond/pub/immutable.containsAfter" := ⟨fun a w => by kernel_rfl, fun a w => by kernel_rfl, fun a w => by kernel_rfl⟩
theorem disp_containsBefore0 : Disp 111 88 "pub-frond/pub/immutable.containsBefore" := ⟨fun a w => by kernel_rfl, fun a w => by kernel_rfl, fun a w => by kernel_rfl⟩
theorem disp_containsBefore1 : Disp 122 98 "pub-frond/pub/immutable.containsBefore" := ⟨fun a w => by kernel_rfl, fun a w => by kernel_rfl, fun a w => by kernel_rfl⟩
theorem disp_deleteAfter0 : Disp 111 89 "pub-frond/pub/immutable.deleteAfter" := ⟨fun a w => by kernel_rfl, fun a w => by kernel_rfl, fun a w => by kernel_rfl⟩
theorem disp_deleteAfter1 : Disp 122 99 "pub-frond/pub/immutable.deleteAfter" := ⟨fun a w => by kernel_rfl, fun a w => by kernel_rfl, fun a w => by kernel_rfl⟩
theorem disp_deleteBefore0 : Disp 111 90 "pub-frond/pub/immutable.deleteBefore" := ⟨fun a w => by kernel_rfl, fun a w => by kernel_rfl, fun a w => by kernel_rfl⟩
theorem disp_deleteBefore1 : Disp 122 100 "pub-frond/pub/immutable.deleteBefore" := ⟨fun a w => by kernel_rfl, fun a w => by kernel_rfl, fun a w => by kernel_rfl⟩
theorem disp_depth0 : Disp 111 91 "pub-frond/pub/immutable.depth" := ⟨fun a w => by kernel_rfl, fun a w => by kernel_rfl, fun a w => by kernel_rfl⟩
theorem disp_depth1 : Disp 122 101 "pub-frond/pub/immutable.depth" := ⟨fun a w => by kernel_rfl, fun a w => by kernel_rfl, fun a w => by kernel_rfl⟩
theorem disp_get0 : Disp 111 92 "pub-frond/pub/immutable.get" := ⟨fun a w => by kernel_rfl, fun a w => by kernel_rfl, fun a w => by kernel_rfl⟩
theorem disp_get1 : Disp 122 102 "pub-frond/pub/immutable.get" := ⟨fun a w => by kernel_rfl, fun a w => by kernel_rfl, fun a w => by kernel_rfl⟩
theorem disp_set0 : Disp 111 93 "pub-frond/pub/immutable.set" := ⟨fun a w => by kernel_rfl, fun a w => by kernel_rfl, fun a w => by kernel_rfl⟩
theorem disp_set1 : Disp 122 103 "pub-frond/pub/immutable.set" := ⟨fun a w => by kernel_rfl, fun a w => by kernel_rfl, fun a w => by kernel_rfl⟩

/-- the dynamic type of a node of depth d -/
def ty (d : Nat) : Nat := if d = 0 then 111 else 122
def fn (x y d : Nat) : Nat := if d = 0 then x else y
theorem disp_ty {x y : Nat} {name : String} (h0 : Disp 111 x name) (h1 : Disp 122 y name) (d : Nat) : Disp (ty d) (fn x y d) name := by
  unfold ty fn
  split
  · exact h0
  · exact h1

theorem Node.ptr {S : Nat → Prop} {w : World} {d : Nat} {v : Value} {f : Nat → Option Int} (h : Node S w d v f) : ∃ p, v = .iface (ty d) (.pointer (some ⟨p, 0, none⟩)) := by
  cases d with
  | zero => obtain ⟨b, arr, occ, h1, _⟩ := h; exact ⟨b, h1⟩
  | succ d => obtain ⟨b, arr, h1, _⟩ := h; exact ⟨b, h1⟩

theorem arr107 : Try.prog.underlying 107 = some (.array (Try.prog.arrayLen 107) (Try.prog.elem 107)) := by kernel_rfl
theorem arr123 : Try.prog.underlying 123 = some (.array (Try.prog.arrayLen 123) (Try.prog.elem 123)) := by kernel_rfl
theorem len107 : Try.prog.arrayLen 107 = 32 := by kernel_rfl
theorem len123 : Try.prog.arrayLen 123 = 32 := by kernel_rfl
theorem elem107 (w : World) : (sizeOf (Try.prog.elem 107)).run Try.prog w = .ok 1 w := by kernel_rfl
theorem elem123 (w : World) : (sizeOf (Try.prog.elem 123)).run Try.prog w = .ok 1 w := by kernel_rfl
theorem addr_add (g o j : Nat) : (⟨g, o, none⟩ : Addr).add j = ⟨g, o + j, none⟩ := by unfold Addr.add; split <;> simp_all
theorem slice107_l (g o j : Nat) (hj : j < 32) (w : World) : (Instr.sliceAt 107 (.pointer (some ⟨g, o, none⟩)) (some (.int .i64 (j : Int))) none none).run Try.prog w = .ok (.slice (some ⟨g, o + j, none⟩) (32 - j) (32 - j)) w := by
  rw [run_sliceAt_array_l w 107 _ arr107 .i64 j (by omega) (by rw [len107]; omega), elem107]
  simp only [Result.andThen_ok, slicedAt, len107, Int.toNat_natCast]
  rw [if_neg (by omega), addr_add, Nat.mul_one]
theorem slice123_l (g o j : Nat) (hj : j < 32) (w : World) : (Instr.sliceAt 123 (.pointer (some ⟨g, o, none⟩)) (some (.int .i64 (j : Int))) none none).run Try.prog w = .ok (.slice (some ⟨g, o + j, none⟩) (32 - j) (32 - j)) w := by
  rw [run_sliceAt_array_l w 123 _ arr123 .i64 j (by omega) (by rw [len123]; omega), elem123]
  simp only [Result.andThen_ok, slicedAt, len123, Int.toNat_natCast]
  rw [if_neg (by omega), addr_add, Nat.mul_one]
theorem slice107_h (g o j : Nat) (hj : j < 32) (w : World) : (Instr.sliceAt 107 (.pointer (some ⟨g, o, none⟩)) none (some (.int .i64 ((j : Int) + 1))) none).run Try.prog w = .ok (.slice (some ⟨g, o, none⟩) (j + 1) 32) w := by
  rw [run_sliceAt_array_h w 107 _ arr107 .i64 _ (by omega) (by rw [len107]; omega), elem107]
  simp only [Result.andThen_ok, slicedAt, len107]
  rw [if_neg (by omega), addr_add, show ((j : Int) + 1).toNat = j + 1 by omega]
  rfl
theorem slice123_h (g o j : Nat) (hj : j < 32) (w : World) : (Instr.sliceAt 123 (.pointer (some ⟨g, o, none⟩)) none (some (.int .i64 ((j : Int) + 1))) none).run Try.prog w = .ok (.slice (some ⟨g, o, none⟩) (j + 1) 32) w := by
  rw [run_sliceAt_array_h w 123 _ arr123 .i64 _ (by omega) (by rw [len123]; omega), elem123]
  simp only [Result.andThen_ok, slicedAt, len123]
  rw [if_neg (by omega), addr_add, show ((j : Int) + 1).toNat = j + 1 by omega]
  rfl

end Go.Proofs.Ytnahipfdnadccaa
