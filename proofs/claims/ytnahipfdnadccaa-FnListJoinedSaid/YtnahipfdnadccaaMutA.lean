/- set at a leaf in place, append to a list in place where there is room, NewList of one value. Conditions of this file: none. -/
import Derived.Test.YtnahipfdnadccaaEqual
import Derived.Test.YtnahipfdnadccaaListC
namespace Go.Proofs.Ytnahipfdnadccaa
open Go.RowKit

set_option maxRecDepth 100000 in
set_option maxHeartbeats 400000 in
theorem leaf_mut_w (b : Nat) (arr : Array Value) (occ i x y : Int) (j : Nat) (w : World) (hb : bits BinOp.and IntKind.i64 i 31 = j) (hj : j < 32)
    (hblk : w.heap[b]? = some (.cells arr 110 (0, 0))) (ho : arr[32]? = some (.int .u32 occ)) (hy : arr[j]? = some (.int .i64 y)) :
    Calls Try.prog 93 #[.pointer (some ⟨b, 0, none⟩), .int .i64 i, .int .i64 x, .bool true] w fun e w' => e = .returned (.iface 111 (.pointer (some ⟨b, 0, none⟩))) ∧
      w' = ((w.setCell ⟨b, j, none⟩ (.int .i64 x)).setCell ⟨b, 32, none⟩ (.int .u32 (bits BinOp.or IntKind.u32 occ (2 ^ j % 4294967296)))).drew := by
  have cj := cell_at hblk hy
  have fj := frozen_of_row _ _ j _ _ hblk
  have hB := heap_setCell_same w b j _ 110 (.int .i64 x) hblk
  have hc32 : (w.setCell ⟨b, j, none⟩ (.int .i64 x)).cell? ⟨b, 32, none⟩ = some (.int .u32 occ) := by
    rw [cell_of_row _ _ _ _ _ _ hB, Array.getElem?_setIfInBounds_ne (by omega)]; exact ho
  have hf32 : (w.setCell ⟨b, j, none⟩ (.int .i64 x)).frozen? ⟨b, 32, none⟩ = false := frozen_of_row _ _ _ _ _ hB
  have HC := Lib.hid (And.intro hc32 hf32)
  clear hblk hB hc32 hf32 ho hy
  go_enter Try.func93, Try.ntmps93
  go_upto_region 8 with (fail)
  obtain ⟨hc32, hf32⟩ := HC.out
  generalize hW : w.setCell ⟨b, j, none⟩ (.int .i64 x) = W at hc32 hf32 ⊢
  have HW := Lib.hid hW
  clear hW HC cj fj
  refine region_tail 9 (by kernel_rfl) (by kernel_rfl) ?_
  simp only [List.take_succ_cons, List.take_zero, List.drop_succ_cons, List.drop_zero]
  repeat still_step
  refine wpStill_nil ?_
  go_wp2
  go_ret
  exact ⟨rfl, by rw [HW.out]⟩

set_option maxRecDepth 100000 in
set_option maxHeartbeats 1600000 in
/-- append in place, where there is room: given cap and the root's set in place -/
theorem append_mut_w (b p fid t o s c : Nat) (x : Int) (w : World) (Q : World → Nat → World → Prop) (ho : o + s ≤ 1152921504606846976) (hlt : s + o < c)
    (hblk : w.heap[b]? = some (.cells #[.iface t (.pointer (some ⟨p, 0, none⟩)), .int .i64 (o : Int), .int .i64 (s : Int)] 113 (0, 0)))
    (hcap : ∀ w', But (· = b) w w' → w'.heap[b]? = some (.cells #[.iface t (.pointer (some ⟨p, 0, none⟩)), .int .i64 (o : Int), .int .i64 (s : Int)] 113 (0, 0)) →
      Calls Try.prog 71 #[.pointer (some ⟨b, 0, none⟩)] w' fun e w'' => e = .returned (.int .i64 (c : Int)) ∧ w'' = w')
    (h0 : Disp t fid "pub-frond/pub/immutable.set")
    (h4 : ∀ w', But (· = b) w w' → Calls Try.prog fid #[.pointer (some ⟨p, 0, none⟩), .int .i64 ((o : Int) + s), .int .i64 x, .bool true] w' fun e w'' => ∃ q, e = .returned (.iface t (.pointer (some ⟨q, 0, none⟩))) ∧ Q w' q w'' ∧ w''.heap[b]? = w'.heap[b]?) :
    Calls Try.prog 66 #[.pointer (some ⟨b, 0, none⟩), .int .i64 x, .bool true] w fun e w' => e = .returned (.pointer (some ⟨b, 0, none⟩)) ∧ ∃ q W V, But (· = b) w W ∧ Q W q V ∧
      V.heap[b]? = some (.cells #[.iface t (.pointer (some ⟨p, 0, none⟩)), .int .i64 (o : Int), .int .i64 ((s : Int) + 1)] 113 (0, 0)) ∧ w' = V.setCell ⟨b, 0, none⟩ (.iface t (.pointer (some ⟨q, 0, none⟩))) := by
  obtain ⟨h1, h2, h3⟩ := h0
  have H4 := Lib.hid h4; clear h4
  have HC := Lib.hid (hcap _ (But.refl _ w).drew hblk); clear hcap
  have hZ := Lib.hid hblk
  obtain ⟨hd0, hd1, hd2⟩ := head_cells hblk
  have hf2 := head_free hblk 2
  have hw1 : IntKind.i64.wrap ((s : Int) + o) = (s : Int) + o := by rw [IntKind.wrap_i64]; omega
  have hge : decide ((c : Int) ≤ (s : Int) + o) = false := by simp; omega
  clear hblk
  go_enter Try.func66, Try.ntmps66
  go_wp2_with fail
  refine region_still (by kernel_rfl) (by kernel_rfl) ?_
  repeat still_step
  still_call (HC.out)
  repeat still_step
  refine wpStill_nil ?_
  go_wp2
  have hZ2 := Lib.hid (head_set2 hZ.out (.int .i64 ((s : Int) + 1)))
  have hB2 := Lib.hid (((But.refl (· = b) w).setCell (p := ⟨b, 2, none⟩) (.inl rfl) (.int .i64 ((s : Int) + 1))).drew)
  generalize hW2 : (w.setCell ⟨b, 2, none⟩ (.int .i64 ((s : Int) + 1))).drew = V at hZ2 hB2 ⊢
  clear hW2 hZ hd0 hd1 hd2 hf2 hw1 hge HC
  obtain ⟨hd0, hd1, hd2⟩ := head_cells hZ2.out
  have hw1 : IntKind.i64.wrap ((o : Int) + ((s : Int) + 1)) = (o : Int) + ((s : Int) + 1) := by rw [IntKind.wrap_i64]; omega
  have hw2 : IntKind.i64.wrap ((o : Int) + ((s : Int) + 1) - 1) = (o : Int) + s := by rw [IntKind.wrap_i64]; omega
  refine region_fix [0] [1, 2, 3, 4, 5, 6, 7, 8, 9, 10, 11, 12, 13, 14, 15, 16, 17, 18] [19, 20, 21, 22] (by kernel_rfl) (by intro dst v c a w h; cases dst <;> exact h) (by kernel_rfl) ?_
  simp only [opsOf, List.getElem?_toArray, List.getElem?_cons_succ, List.getElem?_cons_zero]
  iterate 1 (refine wpPure_step ?_ rfl (fun W => ?_) ?_; rotate_left 1; · go_simp; try with_reducible rfl)
  refine wpPure_nil ?_
  repeat still_step
  refine wpStill_nil ?_
  go_wp2_with fail
  refine (H4.out _ hB2.out.drew).mono ?_
  rintro e w' ⟨q, rfl, hq, hh⟩
  have hz' : w'.heap[b]? = some (.cells #[.iface t (.pointer (some ⟨p, 0, none⟩)), .int .i64 (o : Int), .int .i64 ((s : Int) + 1)] 113 (0, 0)) := hh.trans hZ2.out
  have hc' := cell_at (j := 0) hz' rfl
  have hf' := head_free hz' 0
  have HQ := Lib.hid hq
  have HZ' := Lib.hid hz'
  clear hq hh hz'
  go_wp2
  go_ret
  exact ⟨rfl, q, _, w', hB2.out.drew, HQ.out, HZ'.out, rfl⟩

end Go.Proofs.Ytnahipfdnadccaa
