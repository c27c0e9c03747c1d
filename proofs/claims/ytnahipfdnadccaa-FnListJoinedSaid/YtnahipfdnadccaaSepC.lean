/- append in place where the tree grows. Conditions of this file: none. -/
import Derived.Test.YtnahipfdnadccaaSepB
import Derived.Test.YtnahipfdnadccaaListG
namespace Go.Proofs.Ytnahipfdnadccaa
open Go.RowKit

/-- a new root over a separated node -/
theorem snew_root {V : World} {N d m q : Nat} {S : Nat → Prop} {f g : Nat → Option Int} (hN : V.heap[N]? = some (.cells (((zbranch (d + 1)).toArray).setIfInBounds (1 + m) (.iface (ty d) (.pointer (some ⟨q, 0, none⟩)))) 125 (0, 0))) (hm : m < 32) (hS : ¬ S N)
    (hn : SNode V d S (.iface (ty d) (.pointer (some ⟨q, 0, none⟩))) f) (h1 : ∀ j y, j < 32 ^ (d + 1) → g (m * 32 ^ (d + 1) + j) = some y → f j = some y) (h2 : ∀ k j, k < 32 → k ≠ m → j < 32 ^ (d + 1) → g (k * 32 ^ (d + 1) + j) = none) :
    SNode V (d + 1) (fun x => S x ∨ x = N) (.iface 122 (.pointer (some ⟨N, 0, none⟩))) g := by
  refine ⟨N, _, fun k x => k = m ∧ S x, rfl, hN, by rw [Array.size_setIfInBounds]; exact zbranch_len (d + 1), ?_, fun k hk => ?_, .inr rfl, fun k x hx => ⟨.inl hx.2, fun e => hS (e ▸ hx.2)⟩, fun k k' x hk hx hx' => hk (hx.1.trans hx'.1.symm)⟩
  · rw [Array.getElem?_setIfInBounds_ne (by omega)]; rfl
  · by_cases e : k = m
    · subst e
      exact ⟨_, by rw [Array.getElem?_setIfInBounds_self_of_lt (by rw [List.size_toArray, zbranch_len]; omega)], .inr (SNode.mono _ _ _ _ _ (hn.inS fun b h _ => ⟨rfl, h⟩) fun j y hj hy => h1 j y hj hy)⟩
    · exact ⟨_, by rw [Array.getElem?_setIfInBounds_ne (by omega)]; rw [List.getElem?_toArray]; exact zbranch_get (d + 1) k hk, .inl ⟨rfl, fun j hj => h2 k j hk e hj⟩⟩

set_option maxRecDepth 100000 in
set_option maxHeartbeats 1600000 in
theorem append_gmut_w (b d p fid fid' t o s c : Nat) (x : Int) (w : World) (Q : World → Nat → World → Prop) (hdd : d < 12) (ho : o + s ≤ 1152921504606846976) (hle : c ≤ s + o)
    (hblk : w.heap[b]? = some (.cells #[.iface t (.pointer (some ⟨p, 0, none⟩)), .int .i64 (o : Int), .int .i64 (s : Int)] 113 (0, 0)))
    (hcap : ∀ w', Below w.heap.size w w' → Calls Try.prog 71 #[.pointer (some ⟨b, 0, none⟩)] w' fun e w'' => e = .returned (.int .i64 (c : Int)) ∧ w'' = w')
    (h0' : Disp t fid' "pub-frond/pub/immutable.depth") (hdep : ∀ w', Below w.heap.size w w' → Calls Try.prog fid' #[.pointer (some ⟨p, 0, none⟩)] w' fun e w'' => e = .returned (.int .u64 (d : Int)) ∧ w' = w'')
    (h0 : Disp 122 fid "pub-frond/pub/immutable.set")
    (h4 : ∀ w' N, But (· = b) w w' → w.heap.size ≤ N → w'.heap[N]? = some (.cells (((zbranch (d + 1)).toArray).setIfInBounds (1 + 0) (.iface t (.pointer (some ⟨p, 0, none⟩)))) 125 (0, 0)) →
      Calls Try.prog fid #[.pointer (some ⟨N, 0, none⟩), .int .i64 ((o : Int) + s), .int .i64 x, .bool true] w' fun e w'' => ∃ q, e = .returned (.iface 122 (.pointer (some ⟨q, 0, none⟩))) ∧ Q w' q w'' ∧ w''.heap[b]? = w'.heap[b]?) :
    Calls Try.prog 66 #[.pointer (some ⟨b, 0, none⟩), .int .i64 x, .bool true] w fun e w' => e = .returned (.pointer (some ⟨b, 0, none⟩)) ∧ ∃ q W V r, But (· = b) w W ∧ Q W q V ∧
      V.heap[b]? = some (.cells #[r, .int .i64 (o : Int), .int .i64 ((s : Int) + 1)] 113 (0, 0)) ∧ w' = V.setCell ⟨b, 0, none⟩ (.iface 122 (.pointer (some ⟨q, 0, none⟩))) := by
  obtain ⟨h1, h2, h3⟩ := h0
  obtain ⟨h1', h2', h3'⟩ := h0'
  have H4 := Lib.hid h4; clear h4
  have HC := Lib.hid hcap; clear hcap
  have HD := Lib.hid hdep; clear hdep
  have HBL := Lib.hid hblk
  obtain ⟨hd0, hd1, hd2⟩ := head_cells hblk
  have hw1 : IntKind.i64.wrap ((s : Int) + o) = (s : Int) + o := by rw [IntKind.wrap_i64]; omega
  have hge : decide ((c : Int) ≤ (s : Int) + o) = true := by simp; omega
  clear hblk
  go_enter Try.func66, Try.ntmps66
  go_wp2_with fail
  refine region_still (by kernel_rfl) (by kernel_rfl) ?_
  repeat still_step
  still_call (HC.out _ (Below.refl _ w).drew)
  repeat still_step
  refine wpStill_nil ?_
  go_wp2_with fail
  refine (HD.out _ (Below.refl _ w).drew).mono ?_
  rintro e w' ⟨rfl, rfl⟩
  go_wp2_with fail
  change Code.wp _ _ _ _ (w.alloc (Obj.cells (zbranch (d + 1)).toArray 125)).drew
  have hN : Hid ((w.alloc (Obj.cells (zbranch (d + 1)).toArray 125)).drew.heap[w.heap.size]? = some (.cells (zbranch (d + 1)).toArray 125 (0, 0))) := heap_alloc_last w _
  have hB1 : Below w.heap.size w (w.alloc (Obj.cells (zbranch (d + 1)).toArray 125)).drew := ((Below.refl _ _).alloc (Nat.le_refl _) _).drew
  have hL : Hid ((w.alloc (Obj.cells (zbranch (d + 1)).toArray 125)).drew.heap[b]? = some (.cells #[.iface t (.pointer (some ⟨p, 0, none⟩)), .int .i64 (o : Int), .int .i64 (s : Int)] 113 (0, 0))) := (hB1.block _ (lt_of_block HBL.out)).trans HBL.out
  have hlt : b < w.heap.size := lt_of_block HBL.out
  have hB2 : Hid (But (· = b) w (w.alloc (Obj.cells (zbranch (d + 1)).toArray 125)).drew) := But.of_below hB1
  have HNW : Hid (w.heap.size ≤ w.heap.size) := Nat.le_refl _
  generalize hV : (w.alloc (Obj.cells (zbranch (d + 1)).toArray 125)).drew = V at hN hL hB2 ⊢
  clear hV hB1 hd0 hd1 hd2 hw1 hge HC HD HBL
  have HX : ∃ N, Hid (w.heap.size ≤ N) ∧ w.heap.size = N := ⟨_, HNW, rfl⟩
  obtain ⟨N, HNN, hNe⟩ := HX
  rw [hNe] at hN hlt ⊢
  clear HNW hNe
  obtain ⟨hd0, hd1, hd2⟩ := head_cells hL.out
  have hf0 := head_free hL.out 0
  have hf2 := head_free hL.out 2
  have hne1 : ¬ b = N := by omega
  have hne2 : ¬ N = b := by omega
  have hn1 : V.cell? ⟨N, 1, none⟩ = some .nilIface := cell_at hN.out rfl
  have hnf : V.frozen? ⟨N, 1, none⟩ = false := frozen_of_row _ _ _ _ _ hN.out
  refine region_tail 8 (by kernel_rfl) (by kernel_rfl) ?_
  simp only [List.take_succ_cons, List.take_zero, List.drop_succ_cons, List.drop_zero]
  repeat still_step
  refine wpStill_nil ?_
  go_wp2_with fail
  have hN1 : (V.setCell ⟨N, 1, none⟩ (.iface t (.pointer (some ⟨p, 0, none⟩)))).heap[N]? = some (.cells ((zbranch (d + 1)).toArray.setIfInBounds (1 + 0) (.iface t (.pointer (some ⟨p, 0, none⟩)))) 125 (0, 0)) := heap_setCell_same _ _ _ _ _ _ hN.out
  have hL1 : (V.setCell ⟨N, 1, none⟩ (.iface t (.pointer (some ⟨p, 0, none⟩)))).heap[b]? = some (.cells #[.iface t (.pointer (some ⟨p, 0, none⟩)), .int .i64 (o : Int), .int .i64 (s : Int)] 113 (0, 0)) := by
    rw [heap_setCell_other _ _ _ _ (by show b ≠ N; omega)]; exact hL.out
  have hL2 := head_set2 (head_set0 hL1 (.iface 122 (.pointer (some ⟨N, 0, none⟩)))) (.int .i64 ((s : Int) + 1))
  have hN2 : (((V.setCell ⟨N, 1, none⟩ (.iface t (.pointer (some ⟨p, 0, none⟩)))).setCell ⟨b, 0, none⟩ (.iface 122 (.pointer (some ⟨N, 0, none⟩)))).setCell ⟨b, 2, none⟩ (.int .i64 ((s : Int) + 1))).drew.heap[N]? = some (.cells ((zbranch (d + 1)).toArray.setIfInBounds (1 + 0) (.iface t (.pointer (some ⟨p, 0, none⟩)))) 125 (0, 0)) := by
    rw [heap_drew, heap_setCell_other _ _ _ _ (by show N ≠ b; omega), heap_setCell_other _ _ _ _ (by show N ≠ b; omega)]; exact hN1
  have hB3 := Lib.hid ((((hB2.out.setCell (p := ⟨N, 1, none⟩) (.inr HNN.out) (.iface t (.pointer (some ⟨p, 0, none⟩)))).setCell (p := ⟨b, 0, none⟩) (.inl rfl) (.iface 122 (.pointer (some ⟨N, 0, none⟩)))).setCell (p := ⟨b, 2, none⟩) (.inl rfl) (.int .i64 ((s : Int) + 1))).drew)
  generalize hU : (((V.setCell ⟨N, 1, none⟩ (.iface t (.pointer (some ⟨p, 0, none⟩)))).setCell ⟨b, 0, none⟩ (.iface 122 (.pointer (some ⟨N, 0, none⟩)))).setCell ⟨b, 2, none⟩ (.int .i64 ((s : Int) + 1))).drew = U at hL2 hN2 hB3 ⊢
  have hZ2 := Lib.hid hL2
  have H5 := Lib.hid (H4.out U.drew N hB3.out.drew HNN.out hN2)
  clear hU hN1 hL1 hL2 hN2 hL hN hB2 hd0 hd1 hd2 hf0 hf2 hn1 hnf V H4 HNN
  obtain ⟨hd0, hd1, hd2⟩ := head_cells hZ2.out
  have hw1 : IntKind.i64.wrap ((o : Int) + ((s : Int) + 1)) = (o : Int) + ((s : Int) + 1) := by rw [IntKind.wrap_i64]; omega
  have hw2 : IntKind.i64.wrap ((o : Int) + ((s : Int) + 1) - 1) = (o : Int) + s := by rw [IntKind.wrap_i64]; omega
  refine region_fix [0] [1, 2, 3, 4, 5, 6, 7, 8, 9, 10, 11, 12, 13, 14, 15, 16, 17, 18] [19, 20, 21, 22] (by kernel_rfl) (by intro dst v c a w h; cases dst <;> exact h) (by kernel_rfl) ?_
  simp only [opsOf, List.getElem?_toArray, List.getElem?_cons_succ, List.getElem?_cons_zero]
  refine wpPure_step ?_ rfl (fun W => ?_) ?_; rotate_left 1; · go_simp; try with_reducible rfl
  refine wpPure_nil ?_
  repeat still_step
  refine wpStill_nil ?_
  go_wp2_with fail
  refine H5.out.mono ?_
  rintro e w' ⟨q, rfl, hq, hh⟩
  have hz' := hh.trans hZ2.out
  have hc' := cell_at (j := 0) hz' rfl
  have hf' := head_free hz' 0
  have HQ := Lib.hid hq
  have HZ' := Lib.hid hz'
  clear hq hh hz'
  go_wp2
  go_ret
  exact ⟨rfl, q, _, w', _, hB3.out.drew, HQ.out, HZ'.out, rfl⟩

end Go.Proofs.Ytnahipfdnadccaa
