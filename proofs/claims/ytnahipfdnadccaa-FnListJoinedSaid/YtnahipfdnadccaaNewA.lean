/- NewList of nothing. Conditions of this file: none. -/
import Derived.Test.YtnahipfdnadccaaBut
import Derived.Test.YtnahipfdnadccaaListG
namespace Go.Proofs.Ytnahipfdnadccaa
open Go.RowKit

/-- the world behind a new list that is empty -/
def fresh (w : World) : World := (w.alloc (.cells (zleaf 0).toArray 110)).alloc (.cells #[.iface 111 (.pointer (some ⟨w.heap.size, 0, none⟩)), .int .i64 0, .int .i64 0] 113)

theorem fresh_head (w : World) : (fresh w).heap[w.heap.size + 1]? = some (.cells #[.iface 111 (.pointer (some ⟨w.heap.size, 0, none⟩)), .int .i64 0, .int .i64 0] 113 (0, 0)) := by
  have := heap_alloc_last (w.alloc (.cells (zleaf 0).toArray 110)) (.cells #[.iface 111 (.pointer (some ⟨w.heap.size, 0, none⟩)), .int .i64 0, .int .i64 0] 113)
  simpa [fresh] using this
theorem fresh_leaf (w : World) : (fresh w).heap[w.heap.size]? = some (.cells (zleaf 0).toArray 110 (0, 0)) := by
  have h := heap_alloc_last w (.cells (zleaf 0).toArray 110)
  unfold fresh
  rw [Below.heap_alloc _ _ _ (by simp)]
  exact h
theorem fresh_below (w : World) : Below w.heap.size w (fresh w) := ((Below.refl _ _).alloc (Nat.le_refl _) _).alloc (by simp) _
theorem fresh_node (S : Nat → Prop) (w : World) (hS : S w.heap.size) : Node S (fresh w) 0 (.iface 111 (.pointer (some ⟨w.heap.size, 0, none⟩))) (win 0 []) :=
  ⟨w.heap.size, (zleaf 0).toArray, 0, rfl, fresh_leaf w, by simp [zleaf_len], by simpa using zleaf_last 0, by omega, by omega, fun k hk => ⟨0, by simpa using zleaf_get 0 k hk, fun y hy => by simp [win] at hy⟩, hS⟩
theorem fresh_list (w : World) : IsList (fresh w) (.pointer (some ⟨w.heap.size + 1, 0, none⟩)) 0 [] :=
  ⟨w.heap.size + 1, 0, 0, rfl, w.heap.size, fresh_head w, fresh_node _ w trivial, by simp [Dep]⟩

set_option maxRecDepth 100000 in
set_option maxHeartbeats 800000 in
theorem new0_w (w : World) : Calls Try.prog 55 #[.slice none 0 0] w fun e w' => e = .returned (.pointer (some ⟨w.heap.size + 1, 0, none⟩)) ∧ w' = fresh w := by
  go_enter Try.func55, Try.ntmps55
  go_wp2_with fail
  change Code.wp _ _ _ _ (fresh w)
  generalize hW : fresh w = W
  have HW := Lib.hid hW
  clear hW
  refine wp_loop_once ?_
  go_wp2_with fail
  go_ret
  exact ⟨rfl, HW.out.symm⟩

theorem new0 (w : World) : Calls Try.prog 55 #[.slice none 0 0] w (ListPost w 0 []) := (new0_w w).mono fun e w' h => by
  obtain ⟨rfl, rfl⟩ := h
  exact ⟨_, rfl, fresh_list w, fresh_below w⟩

end Go.Proofs.Ytnahipfdnadccaa
