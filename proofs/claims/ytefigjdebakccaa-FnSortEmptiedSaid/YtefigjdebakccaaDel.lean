/- slices.Delete of one element of a row of one's own, from the shelf. -/
import Derived.Test.YtefigjdebakccaaKit
import Derived.Shelf.Slices.Delete
import Derived.Sort.OwnSortedInts
namespace Go.Proofs.Ytefigjdebakccaa
open Go.RowKit Go.Shelf Go.Sort

def delRen : Ren := ⟨fun _ => 39, fun x => x, fun x => x⟩
theorem del_lays : Lays2.n23 Try.prog delRen where
  mixed := by kernel_rfl
  f23 := by kernel_rfl
  t0 := by kernel_rfl
  a0 := fun w => by kernel_rfl
  z0 := fun w => by kernel_rfl
  v0 := fun w => by kernel_rfl
  t3 := by kernel_rfl
  a3 := fun w => by kernel_rfl
  z3 := fun w => by kernel_rfl
  v3 := fun w => by kernel_rfl
  t4 := by kernel_rfl
  a4 := fun w => by kernel_rfl
  z4 := fun w => by kernel_rfl
  v4 := fun w => by kernel_rfl
  t22 := by kernel_rfl
  a22 := fun w => by kernel_rfl
  z22 := fun w => by kernel_rfl
  v22 := fun w => by kernel_rfl
  i3 := by kernel_rfl
theorem del1_w (B : Nat) (v : Value) (xs : List Int) (k : Nat) (hk : k < xs.length) (w : World) (ho : w.ownsRow B 3 1 v xs.length (xs.map (Value.int .i64))) :
    Calls Try.prog 39 #[v, .int .i64 (k : Int), .int .i64 ((k + 1 : Nat) : Int)] w fun e w' => ∃ u, e = .returned u ∧ w'.ownsRow B 3 1 u (xs.length - 1) ((xs.eraseIdx k).map (Value.int .i64)) ∧ w.grownBy w' v.ownBlock := by
  rcases ho.2 with ⟨-, h0⟩ | ⟨g, cap, cur, rfl, hB, hb, hn, hcap, hsz, htake⟩
  · omega
  rw [Nat.mul_one] at htake hsz
  have h := Any.slices_Delete_int del_lays g 0 cap k (k + 1) xs w (holds_of_blockI hb htake) hn (by unfold maxLen at hcap; omega) (by omega) hk
  refine h.mono ?_
  rintro e w' ⟨rfl, q, rfl⟩
  obtain ⟨zs, hz⟩ : ∃ zs, zs = xs.take k ++ xs.drop (k + 1) ++ List.replicate (k + 1 - k) 0 := ⟨_, rfl⟩
  rw [← hz]
  have hzl : zs.length = xs.length := by rw [hz, List.length_append, List.length_append, List.length_take, List.length_drop, List.length_replicate]; omega
  have hbb := heap_sortedI (os := #[]) (n := q) zs.toArray hb
  have hg := grownBy_sortedI (w := w) (g := g) (n := q) (os := #[]) zs.toArray
  rw [grow_empty] at hbb hg
  have hel : (xs.eraseIdx k).length = xs.length - 1 := by rw [List.length_eraseIdx, if_pos hk]
  refine ⟨_, rfl, ⟨by rw [List.length_map, hel, Nat.mul_one], .inr ⟨g, cap, _, ?_, hB, hbb, by omega, hcap, by simp [putCells, hsz], ?_⟩⟩, hg⟩
  · rw [show xs.length - (k + 1 - k) = xs.length - 1 by omega]
  · have ht := take_putCellsI cur zs (by rw [hzl, hsz]; exact hn)
    rw [Nat.mul_one, show xs.length - 1 = min (xs.length - 1) zs.length by rw [hzl]; omega, ← List.take_take, ht, hz, List.eraseIdx_eq_take_drop_succ, ← List.map_take, List.take_append_of_le_length (by rw [List.length_append, List.length_take, List.length_drop]; omega), List.take_of_length_le (by rw [List.length_append, List.length_take, List.length_drop]; omega)]
end Go.Proofs.Ytefigjdebakccaa
