/- The walks over a leaf of a list's tree: get, set (as a copy), contains, delete (as a copy). -/
import Derived.Test.YtnahipfdnadccaaBase
namespace Go.Proofs.Ytnahipfdnadccaa
open Go.RowKit

theorem arr_one {arr : Array Value} {n : Nat} (hs : arr.size = n) (h : ∀ k, k < n → ∃ v, arr[k]? = some v ∧ v.oneCell' = true) : arr.all (·.oneCell') = true := by
  rw [Array.all_eq_true]
  intro i hi
  obtain ⟨v, hv, h1⟩ := h i (by omega)
  rw [Array.getElem?_eq_getElem hi] at hv
  cases hv
  exact h1

theorem leaf_one {arr : Array Value} {occ : Int} {f : Nat → Option Int} (hs : arr.size = 33) (ho : arr[32]? = some (.int .u32 occ)) (h : ∀ k, k < 32 → ∃ x, arr[k]? = some (.int .i64 x) ∧ ∀ y, f k = some y → y = x) : arr.all (·.oneCell') = true :=
  arr_one hs fun k hk => by
    by_cases e : k = 32
    · subst e; exact ⟨_, ho, rfl⟩
    · obtain ⟨x, hx, _⟩ := h k (by omega); exact ⟨_, hx, rfl⟩

/-- a cell of a row -/
theorem cell_at {w : World} {b j : Nat} {arr : Array Value} {t : TypeId} {fz : Nat × Nat} {v : Value} (hg : w.heap[b]? = some (.cells arr t fz)) (hv : arr[j]? = some v) : w.cell? ⟨b, j, none⟩ = some v := by
  rw [cell_of_row _ _ _ _ _ _ hg]; exact hv

set_option maxRecDepth 100000 in
set_option maxHeartbeats 400000 in
theorem leaf_get_w (b : Nat) (i : Int) (j : Nat) (x : Int) (w : World) (hb : bits BinOp.and IntKind.i64 i 31 = j) (hj : j < 32) (hc : w.cell? ⟨b, j, none⟩ = some (.int .i64 x)) :
    Calls Try.prog 92 #[.pointer (some ⟨b, 0, none⟩), .int .i64 i] w fun e w' => e = .returned (.int .i64 x) ∧ w = w' := by
  go_enter Try.func92, Try.ntmps92
  go_wp2
  go_ret
  exact ⟨rfl, rfl⟩

theorem leaf_get {S : Nat → Prop} {w : World} {p : Nat} {f : Nat → Option Int} (i x : Int) (h : Node S w 0 (.iface 111 (.pointer (some ⟨p, 0, none⟩))) f) (hx : f (loc i 0) = some x) :
    Calls Try.prog 92 #[.pointer (some ⟨p, 0, none⟩), .int .i64 i] w fun e w' => e = .returned (.int .i64 x) ∧ w = w' := by
  obtain ⟨b, arr, occ, h1, h2, h3, h4, h5, h6, h7, h8⟩ := h
  simp only [Value.iface.injEq, Value.pointer.injEq, Option.some.injEq, Addr.mk.injEq, true_and, and_true] at h1
  subst h1
  obtain ⟨y, hy, hz⟩ := h7 (slot i 0) (slot_lt i 0)
  rw [loc0] at hx
  have := hz x hx
  subst this
  exact leaf_get_w p i (slot i 0) x w (slot0 i) (slot_lt i 0) (cell_at h2 hy)

set_option maxRecDepth 100000 in
set_option maxHeartbeats 400000 in
theorem leaf_set_w (b : Nat) (arr : Array Value) (occ i x y : Int) (j : Nat) (w : World) (hb : bits BinOp.and IntKind.i64 i 31 = j) (hj : j < 32)
    (hblk : w.heap[b]? = some (.cells arr 110 (0, 0))) (hs : arr.size = 33) (hone : arr.all (·.oneCell') = true) (ho : arr[32]? = some (.int .u32 occ)) (_hy : arr[j]? = some (.int .i64 y)) :
    Calls Try.prog 93 #[.pointer (some ⟨b, 0, none⟩), .int .i64 i, .int .i64 x, .bool false] w fun e w' => e = .returned (.iface 111 (.pointer (some ⟨w.heap.size, 0, none⟩))) ∧
      ((w.alloc (.cells (arr.setIfInBounds j (.int .i64 x)) 110)).setCell ⟨w.heap.size, 32, none⟩ (.int .u32 (bits BinOp.or IntKind.u32 occ (2 ^ j % 4294967296)))).drew = w' := by
  have hst := fun (c : Array Value) (hc : c.size = 33) => run_storeCells_new (P := Try.prog) w 110 c arr (size110.trans (by rw [hs])) (by rw [hc, hs]) hone
  go_enter Try.func93, Try.ntmps93
  go_wp2_with (first | (with_reducible refine wpList_load_row rfl 110 _ rfl b rfl 110 arr (0, 0) _ hblk Try.underlying110 rfl (size110.trans (by rw [hs])) ?_))
  have hc32 : (w.alloc (.cells (arr.setIfInBounds j (.int .i64 x)) 110)).cell? ⟨w.heap.size, 32, none⟩ = some (.int .u32 occ) := by
    rw [cell_of_row _ _ _ _ _ _ (heap_alloc_last w _), Array.getElem?_setIfInBounds_ne (by omega)]; exact ho
  have hf32 : (w.alloc (.cells (arr.setIfInBounds j (.int .i64 x)) 110)).frozen? ⟨w.heap.size, 32, none⟩ = false := frozen_of_row _ _ _ _ _ (heap_alloc_last w _)
  generalize hW : w.alloc (.cells (arr.setIfInBounds j (.int .i64 x)) 110) = W at hc32 hf32 ⊢
  have HW := Lib.hid hW
  clear hW hst
  refine region_tail 9 (by kernel_rfl) (by kernel_rfl) ?_
  simp only [List.take_succ_cons, List.take_zero, List.drop_succ_cons, List.drop_zero]
  repeat still_step
  refine wpStill_nil ?_
  go_wp2
  go_ret
  exact ⟨rfl, by rw [HW.out]⟩

/-- the post of a set that copies -/
def SetPost (S : Nat → Prop) (w : World) (d : Nat) (f : Nat → Option Int) (k : Nat) (x : Int) (e : Ending) (w' : World) : Prop :=
  ∃ v', e = .returned v' ∧ Node (New S w) w' d v' (upd f k x) ∧ Below w.heap.size w w'

theorem u32_or (x y : Int) : 0 ≤ bits BinOp.or IntKind.u32 x y ∧ bits BinOp.or IntKind.u32 x y < 4294967296 := by
  unfold bits
  simp only
  rw [IntKind.wrap_u32]
  omega
theorem u32_and (x y : Int) : 0 ≤ bits BinOp.and IntKind.u32 x y ∧ bits BinOp.and IntKind.u32 x y < 4294967296 := by
  unfold bits
  simp only
  rw [IntKind.wrap_u32]
  omega

theorem leaf_set {S : Nat → Prop} {w : World} {p : Nat} {f : Nat → Option Int} (i x : Int) (h : Node S w 0 (.iface 111 (.pointer (some ⟨p, 0, none⟩))) f) :
    Calls Try.prog 93 #[.pointer (some ⟨p, 0, none⟩), .int .i64 i, .int .i64 x, .bool false] w (SetPost S w 0 f (loc i 0) x) := by
  obtain ⟨b, arr, occ, h1, h2, h3, h4, h5, h6, h7, h8⟩ := h
  simp only [Value.iface.injEq, Value.pointer.injEq, Option.some.injEq, Addr.mk.injEq, true_and, and_true] at h1
  subst h1
  obtain ⟨y, hy, hz⟩ := h7 (slot i 0) (slot_lt i 0)
  refine (leaf_set_w p arr occ i x y (slot i 0) w (slot0 i) (slot_lt i 0) h2 h3 (leaf_one h3 h4 h7) h4 hy).mono ?_
  rintro e w' ⟨rfl, rfl⟩
  have hr := u32_or occ (2 ^ (slot i 0) % 4294967296)
  have hl := slot_lt i 0
  refine ⟨_, rfl, ?_, ((((Below.refl _ _).alloc (Nat.le_refl _) _).setCell (Nat.le_refl _) _).drew)⟩
  refine ⟨w.heap.size, (arr.setIfInBounds (slot i 0) (.int .i64 x)).setIfInBounds 32 (.int .u32 (bits BinOp.or IntKind.u32 occ (2 ^ (slot i 0) % 4294967296))), _, rfl, ?_, ?_, ?_, hr.1, hr.2, ?_, .inr (Nat.le_refl _)⟩
  · rw [heap_drew]
    exact heap_setCell_same _ _ _ _ _ _ (heap_alloc_last w _)
  · simp [h3]
  · rw [Array.getElem?_setIfInBounds_self_of_lt (by simp [h3])]
  · intro k hk
    rw [Array.getElem?_setIfInBounds_ne (by omega), loc0]
    by_cases e : k = slot i 0
    · subst e
      rw [Array.getElem?_setIfInBounds_self_of_lt (by omega)]
      exact ⟨x, rfl, fun y hy => by unfold upd at hy; rw [if_pos rfl] at hy; cases hy; rfl⟩
    · rw [Array.getElem?_setIfInBounds_ne (fun h => e h.symm)]
      obtain ⟨y', hy', hz'⟩ := h7 k hk
      exact ⟨y', hy', fun y hy => by unfold upd at hy; rw [if_neg e] at hy; exact hz' y hy⟩

end Go.Proofs.Ytnahipfdnadccaa
