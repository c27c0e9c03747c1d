/- A list's set and prepend in place. Conditions of this file: none. -/
import Derived.Test.YtnahipfdnadccaaMutC
namespace Go.Proofs.Ytnahipfdnadccaa
open Go.RowKit

set_option maxRecDepth 100000 in
set_option maxHeartbeats 1600000 in
theorem lset_mut_w (b p fid t o s i : Nat) (x : Int) (w : World) (Q : World → Nat → World → Prop) (hi : i < s) (ho : o + s ≤ 1152921504606846976)
    (hblk : w.heap[b]? = some (.cells #[.iface t (.pointer (some ⟨p, 0, none⟩)), .int .i64 (o : Int), .int .i64 (s : Int)] 113 (0, 0)))
    (h0 : Disp t fid "pub-frond/pub/immutable.set")
    (h4 : ∀ w', But (· = b) w w' → Calls Try.prog fid #[.pointer (some ⟨p, 0, none⟩), .int .i64 ((o : Int) + i), .int .i64 x, .bool true] w' fun e w'' => ∃ q, e = .returned (.iface t (.pointer (some ⟨q, 0, none⟩))) ∧ Q w' q w'' ∧ w''.heap[b]? = w'.heap[b]?) :
    Calls Try.prog 68 #[.pointer (some ⟨b, 0, none⟩), .int .i64 (i : Int), .int .i64 x, .bool true] w fun e w' => e = .returned (.pointer (some ⟨b, 0, none⟩)) ∧ ∃ q W V, But (· = b) w W ∧ Q W q V ∧
      V.heap[b]? = some (.cells #[.iface t (.pointer (some ⟨p, 0, none⟩)), .int .i64 (o : Int), .int .i64 (s : Int)] 113 (0, 0)) ∧ w' = V.setCell ⟨b, 0, none⟩ (.iface t (.pointer (some ⟨q, 0, none⟩))) := by
  obtain ⟨hc0, hc1, hc2⟩ := head_cells hblk
  obtain ⟨h1, h2, h3⟩ := h0
  have H4 := Lib.hid h4; clear h4
  have HB := Lib.hid hblk
  have hi1 : decide ((s : Int) ≤ (i : Int)) = false := by simp; omega
  have hw1 : IntKind.i64.wrap ((o : Int) + i) = (o : Int) + i := by rw [IntKind.wrap_i64]; omega
  clear hblk
  go_enter Try.func68, Try.ntmps68
  go_wp2_with fail
  go_region_with (first | ((with_reducible refine (H4.out _ (But.refl _ w).drew).mono ?_); rintro e w' ⟨q, rfl, hq, hh⟩; have hz' := hh.trans HB.out; have hc' := cell_at (j := 0) hz' rfl; have hf' := head_free hz' 0; have HQ := Lib.hid hq; have HZ' := Lib.hid hz'; clear hq hh hz'))
  all_goals
    go_wp2
    go_ret
    exact ⟨rfl, q, _, w', (But.refl _ w).drew, HQ.out, HZ'.out, rfl⟩

set_option maxRecDepth 100000 in
set_option maxHeartbeats 1600000 in
theorem prepend_mut_w (b p fid t o s : Nat) (x : Int) (w : World) (Q : World → Nat → World → Prop) (ho : o + s ≤ 1152921504606846976) (hlt : 0 < o)
    (hblk : w.heap[b]? = some (.cells #[.iface t (.pointer (some ⟨p, 0, none⟩)), .int .i64 (o : Int), .int .i64 (s : Int)] 113 (0, 0)))
    (h0 : Disp t fid "pub-frond/pub/immutable.set")
    (h4 : ∀ w', But (· = b) w w' → Calls Try.prog fid #[.pointer (some ⟨p, 0, none⟩), .int .i64 ((o : Int) - 1), .int .i64 x, .bool true] w' fun e w'' => ∃ q, e = .returned (.iface t (.pointer (some ⟨q, 0, none⟩))) ∧ Q w' q w'' ∧ w''.heap[b]? = w'.heap[b]?) :
    Calls Try.prog 67 #[.pointer (some ⟨b, 0, none⟩), .int .i64 x, .bool true] w fun e w' => e = .returned (.pointer (some ⟨b, 0, none⟩)) ∧ ∃ q W V, But (· = b) w W ∧ Q W q V ∧
      V.heap[b]? = some (.cells #[.iface t (.pointer (some ⟨p, 0, none⟩)), .int .i64 ((o : Int) - 1), .int .i64 ((s : Int) + 1)] 113 (0, 0)) ∧ w' = V.setCell ⟨b, 0, none⟩ (.iface t (.pointer (some ⟨q, 0, none⟩))) := by
  obtain ⟨hd0, hd1, hd2⟩ := head_cells hblk
  obtain ⟨h1, h2, h3⟩ := h0
  have H4 := Lib.hid h4; clear h4
  have HB := Lib.hid hblk
  have hf1 := head_free hblk 1
  have hf2 := head_free hblk 2
  have hne : ((o : Int) == 0) = false := by simp; omega
  have hw1 : IntKind.i64.wrap ((s : Int) + 1) = (s : Int) + 1 := by rw [IntKind.wrap_i64]; omega
  have hw2 : IntKind.i64.wrap ((o : Int) - 1) = (o : Int) - 1 := by rw [IntKind.wrap_i64]; omega
  clear hblk
  go_enter Try.func67, Try.ntmps67
  go_wp2_with fail
  have hL := head_set1 (head_set2' HB.out (.int .i64 ((s : Int) + 1))) (.int .i64 ((o : Int) - 1))
  have hB2 : But (· = b) w ((w.setCell ⟨b, 2, none⟩ (.int .i64 ((s : Int) + 1))).setCell ⟨b, 1, none⟩ (.int .i64 ((o : Int) - 1))) := ((But.refl (· = b) w).setCell (p := ⟨b, 2, none⟩) (.inl rfl) _).setCell (p := ⟨b, 1, none⟩) (.inl rfl) _
  generalize (w.setCell ⟨b, 2, none⟩ (.int .i64 ((s : Int) + 1))).setCell ⟨b, 1, none⟩ (.int .i64 ((o : Int) - 1)) = V at hL hB2 ⊢
  have HL := Lib.hid hL
  have HB2 := Lib.hid hB2
  clear hd0 hd1 hd2 hf1 hf2 hw1 hw2 hL hB2 HB
  obtain ⟨hd0, hd1, hd2⟩ := head_cells HL.out
  refine region_fix [0] [1, 2, 3, 4, 5, 6, 7, 8, 9, 10, 11, 12] [13, 14, 15, 16] (by kernel_rfl) (by intro dst v c a w h; cases dst <;> exact h) (by kernel_rfl) ?_
  simp only [opsOf, List.getElem?_toArray, List.getElem?_cons_succ, List.getElem?_cons_zero]
  iterate 1 (refine wpPure_step ?_ rfl (fun W => ?_) ?_; rotate_left 1; · go_simp; try with_reducible rfl)
  refine wpPure_nil ?_
  repeat still_step
  refine wpStill_nil ?_
  go_wp2_with fail
  refine (H4.out _ HB2.out.drew).mono ?_
  rintro e w' ⟨q, rfl, hq, hh⟩
  have hz' := hh.trans HL.out
  have hc' := cell_at (j := 0) hz' rfl
  have hf' := head_free hz' 0
  have HQ := Lib.hid hq
  have HZ' := Lib.hid hz'
  clear hq hh hz'
  go_wp2
  go_ret
  exact ⟨rfl, q, _, w', HB2.out.drew, HQ.out, HZ'.out, rfl⟩

set_option maxRecDepth 100000 in
set_option maxHeartbeats 1600000 in
theorem prepend_gmut_w (b d p fid fid' t s c : Nat) (x : Int) (w : World) (Q : World → Nat → World → Prop) (hdd : d < 8) (hc : c = 31 * 32 ^ (d + 1)) (hs : s ≤ 1152921504606846976)
    (hblk : w.heap[b]? = some (.cells #[.iface t (.pointer (some ⟨p, 0, none⟩)), .int .i64 0, .int .i64 (s : Int)] 113 (0, 0)))
    (h0' : Disp t fid' "pub-frond/pub/immutable.depth") (hdep : ∀ w', Below w.heap.size w w' → Calls Try.prog fid' #[.pointer (some ⟨p, 0, none⟩)] w' fun e w'' => e = .returned (.int .u64 (d : Int)) ∧ w' = w'')
    (h0 : Disp 122 fid "pub-frond/pub/immutable.set")
    (h4 : ∀ w' N, But (· = b) w w' → w.heap.size ≤ N → w'.heap[N]? = some (.cells (((zbranch (d + 1)).toArray).setIfInBounds (1 + 31) (.iface t (.pointer (some ⟨p, 0, none⟩)))) 125 (0, 0)) →
      Calls Try.prog fid #[.pointer (some ⟨N, 0, none⟩), .int .i64 ((c : Int) - 1), .int .i64 x, .bool true] w' fun e w'' => ∃ q, e = .returned (.iface 122 (.pointer (some ⟨q, 0, none⟩))) ∧ Q w' q w'' ∧ w''.heap[b]? = w'.heap[b]?) :
    Calls Try.prog 67 #[.pointer (some ⟨b, 0, none⟩), .int .i64 x, .bool true] w fun e w' => e = .returned (.pointer (some ⟨b, 0, none⟩)) ∧ ∃ q W V r, But (· = b) w W ∧ Q W q V ∧
      V.heap[b]? = some (.cells #[r, .int .i64 ((c : Int) - 1), .int .i64 ((s : Int) + 1)] 113 (0, 0)) ∧ w' = V.setCell ⟨b, 0, none⟩ (.iface 122 (.pointer (some ⟨q, 0, none⟩))) := by
  obtain ⟨h1, h2, h3⟩ := h0
  obtain ⟨h1', h2', h3'⟩ := h0'
  obtain ⟨h1'', h2'', h3''⟩ := disp_depth1
  have H4 := Lib.hid h4; clear h4
  have HD := Lib.hid hdep; clear hdep
  have HC := Lib.hid hc; clear hc
  have HBL := Lib.hid hblk
  obtain ⟨hd0, hd1, hd2⟩ := head_cells hblk
  clear hblk
  go_enter Try.func67, Try.ntmps67
  go_wp2_with fail
  refine (HD.out _ (Below.refl _ w)).mono ?_
  rintro e w' ⟨rfl, rfl⟩
  go_wp2_with fail
  change Code.wp _ _ _ _ (w.alloc (Obj.cells (zbranch (d + 1)).toArray 125))
  have hN : Hid ((w.alloc (Obj.cells (zbranch (d + 1)).toArray 125)).heap[w.heap.size]? = some (.cells (zbranch (d + 1)).toArray 125 (0, 0))) := heap_alloc_last w _
  have hB1 : Below w.heap.size w (w.alloc (Obj.cells (zbranch (d + 1)).toArray 125)) := (Below.refl _ _).alloc (Nat.le_refl _) _
  have hL : Hid ((w.alloc (Obj.cells (zbranch (d + 1)).toArray 125)).heap[b]? = some (.cells #[.iface t (.pointer (some ⟨p, 0, none⟩)), .int .i64 0, .int .i64 (s : Int)] 113 (0, 0))) := (hB1.block _ (lt_of_block HBL.out)).trans HBL.out
  have hlt : b < w.heap.size := lt_of_block HBL.out
  have hB2 : Hid (But (· = b) w (w.alloc (Obj.cells (zbranch (d + 1)).toArray 125))) := But.of_below hB1
  have HNW : Hid (w.heap.size ≤ w.heap.size) := Nat.le_refl _
  generalize hV : w.alloc (Obj.cells (zbranch (d + 1)).toArray 125) = V at hN hL hB2 ⊢
  clear hV hB1 hd0 hd1 hd2 HD HBL
  have HX : ∃ N, Hid (w.heap.size ≤ N) ∧ w.heap.size = N := ⟨_, HNW, rfl⟩
  obtain ⟨N, HNN, hNe⟩ := HX
  rw [hNe] at hN hlt ⊢
  clear HNW hNe
  obtain ⟨hd0, hd1, hd2⟩ := head_cells hL.out
  have hf0 := head_free hL.out 0
  have hne1 : ¬ b = N := by omega
  have hne2 : ¬ N = b := by omega
  have hn1 : V.cell? ⟨N, 32, none⟩ = some .nilIface := cell_at hN.out rfl
  have hnf : V.frozen? ⟨N, 32, none⟩ = false := frozen_of_row _ _ _ _ _ hN.out
  refine region_tail 8 (by kernel_rfl) (by kernel_rfl) ?_
  simp only [List.take_succ_cons, List.take_zero, List.drop_succ_cons, List.drop_zero]
  repeat still_step
  refine wpStill_nil ?_
  go_wp2_with fail
  have hN1 : (V.setCell ⟨N, 32, none⟩ (.iface t (.pointer (some ⟨p, 0, none⟩)))).heap[N]? = some (.cells ((zbranch (d + 1)).toArray.setIfInBounds (1 + 31) (.iface t (.pointer (some ⟨p, 0, none⟩)))) 125 (0, 0)) := heap_setCell_same _ _ _ _ _ _ hN.out
  have hL1 : (V.setCell ⟨N, 32, none⟩ (.iface t (.pointer (some ⟨p, 0, none⟩)))).heap[b]? = some (.cells #[.iface t (.pointer (some ⟨p, 0, none⟩)), .int .i64 0, .int .i64 (s : Int)] 113 (0, 0)) := by
    rw [heap_setCell_other _ _ _ _ (by show b ≠ N; omega)]; exact hL.out
  have hL2 : ((V.setCell ⟨N, 32, none⟩ (.iface t (.pointer (some ⟨p, 0, none⟩)))).setCell ⟨b, 0, none⟩ (.iface 122 (.pointer (some ⟨N, 0, none⟩)))).drew.heap[b]? = some (.cells #[.iface 122 (.pointer (some ⟨N, 0, none⟩)), .int .i64 0, .int .i64 (s : Int)] 113 (0, 0)) := head_set0 hL1 _
  have hN2 : ((V.setCell ⟨N, 32, none⟩ (.iface t (.pointer (some ⟨p, 0, none⟩)))).setCell ⟨b, 0, none⟩ (.iface 122 (.pointer (some ⟨N, 0, none⟩)))).drew.heap[N]? = some (.cells ((zbranch (d + 1)).toArray.setIfInBounds (1 + 31) (.iface t (.pointer (some ⟨p, 0, none⟩)))) 125 (0, 0)) := by
    rw [heap_drew, heap_setCell_other _ _ _ _ (by show N ≠ b; omega)]; exact hN1
  have hB3 := Lib.hid (((hB2.out.setCell (p := ⟨N, 32, none⟩) (.inr HNN.out) (.iface t (.pointer (some ⟨p, 0, none⟩)))).setCell (p := ⟨b, 0, none⟩) (.inl rfl) (.iface 122 (.pointer (some ⟨N, 0, none⟩)))).drew)
  generalize hU : ((V.setCell ⟨N, 32, none⟩ (.iface t (.pointer (some ⟨p, 0, none⟩)))).setCell ⟨b, 0, none⟩ (.iface 122 (.pointer (some ⟨N, 0, none⟩)))).drew = U at hL2 hN2 hB3 ⊢
  have hZ2 := Lib.hid hL2
  have hZN := Lib.hid hN2
  have hdn : Hid (U.cell? ⟨N, 0, none⟩ = some (.int .u64 ((d : Int) + 1))) := cell_at hN2 (by rw [Array.getElem?_setIfInBounds_ne (by omega)]; rfl)
  clear hU hN1 hL1 hL2 hN2 hL hN hB2 hd0 hd1 hd2 hf0 hn1 hnf V
  obtain ⟨hd0, hd1, hd2⟩ := head_cells hZ2.out
  have hf1 := head_free hZ2.out 1
  have hf2 := head_free hZ2.out 2
  have hw0 : IntKind.u64.wrap (((d : Int) + 1) * 5) = ((d : Int) + 1) * 5 := by rw [IntKind.wrap_u64]; omega
  have hw0a : 0 ≤ ((d : Int) + 1) * 5 := by omega
  have hw0b : ((d : Int) + 1) * 5 ≤ 64 := by omega
  have hw0c : (((d : Int) + 1) * 5).toNat = (d + 1) * 5 := by omega
  have hcv : (31 : Int) * 2 ^ ((d + 1) * 5) = (c : Int) := by rw [HC.out, pow25, Int.natCast_mul, cast32]; rfl
  have hcb : (c : Int) ≤ 1152921504606846976 := by
    rw [HC.out]
    have h1 : (32 : Nat) ^ (d + 1) ≤ 32 ^ 8 := Nat.pow_le_pow_right (by decide) (by omega)
    have h2 : (32 : Nat) ^ 8 = 1099511627776 := by decide
    omega
  have hcp : (1 : Int) ≤ (c : Int) := by
    rw [HC.out]
    have := pos32 (d + 1)
    omega
  have hw1 : IntKind.i64.wrap (c : Int) = (c : Int) := by rw [IntKind.wrap_i64]; omega
  have hcall : Hid (Calls Try.prog 101 #[.pointer (some ⟨N, 0, none⟩)] U.drew fun e w'' => e = .returned (.int .u64 ((d : Int) + 1)) ∧ w'' = U.drew) := (depth_w1 N _ U.drew hdn.out).mono fun e w'' h => ⟨h.1, h.2.symm⟩
  refine region_tail 14 (by kernel_rfl) (by kernel_rfl) ?_
  simp only [List.take_succ_cons, List.take_zero, List.drop_succ_cons, List.drop_zero]
  repeat still_step
  still_call (hcall.out)
  repeat still_step
  refine wpStill_nil ?_
  clear hw0 hw0a hw0b hw0c hcv hw1
  go_wp2_with fail
  have hL4 : (((U.setCell ⟨b, 1, none⟩ (.int .i64 (c : Int))).setCell ⟨b, 2, none⟩ (.int .i64 ((s : Int) + 1))).setCell ⟨b, 1, none⟩ (.int .i64 ((c : Int) - 1))).drew.heap[b]? = some (.cells #[.iface 122 (.pointer (some ⟨N, 0, none⟩)), .int .i64 ((c : Int) - 1), .int .i64 ((s : Int) + 1)] 113 (0, 0)) := head_set1 (head_set2' (head_set1 hZ2.out _) _) _
  have hN4 : (((U.setCell ⟨b, 1, none⟩ (.int .i64 (c : Int))).setCell ⟨b, 2, none⟩ (.int .i64 ((s : Int) + 1))).setCell ⟨b, 1, none⟩ (.int .i64 ((c : Int) - 1))).drew.heap[N]? = some (.cells ((zbranch (d + 1)).toArray.setIfInBounds (1 + 31) (.iface t (.pointer (some ⟨p, 0, none⟩)))) 125 (0, 0)) := by
    rw [heap_drew, heap_setCell_other _ _ _ _ (by show N ≠ b; omega), heap_setCell_other _ _ _ _ (by show N ≠ b; omega), heap_setCell_other _ _ _ _ (by show N ≠ b; omega)]; exact hZN.out
  have hB4 := Lib.hid ((((hB3.out.setCell (p := ⟨b, 1, none⟩) (.inl rfl) (.int .i64 (c : Int))).setCell (p := ⟨b, 2, none⟩) (.inl rfl) (.int .i64 ((s : Int) + 1))).setCell (p := ⟨b, 1, none⟩) (.inl rfl) (.int .i64 ((c : Int) - 1))).drew)
  generalize hX : (((U.setCell ⟨b, 1, none⟩ (.int .i64 (c : Int))).setCell ⟨b, 2, none⟩ (.int .i64 ((s : Int) + 1))).setCell ⟨b, 1, none⟩ (.int .i64 ((c : Int) - 1))).drew = X at hL4 hN4 hB4 ⊢
  have hZ5 := Lib.hid hL4
  have H5 := Lib.hid (H4.out X.drew N hB4.out.drew HNN.out hN4)
  clear hX hL4 hN4 hZ2 hZN hB3 hd0 hd1 hd2 hf1 hf2 hdn hcall U H4 HNN
  obtain ⟨hd0, hd1, hd2⟩ := head_cells hZ5.out
  refine region_fix [0] [1, 2, 3, 4, 5, 6, 7, 8, 9, 10, 11, 12] [13, 14, 15, 16] (by kernel_rfl) (by intro dst v c a w h; cases dst <;> exact h) (by kernel_rfl) ?_
  simp only [opsOf, List.getElem?_toArray, List.getElem?_cons_succ, List.getElem?_cons_zero]
  refine wpPure_step ?_ rfl (fun W => ?_) ?_; rotate_left 1; · go_simp; try with_reducible rfl
  refine wpPure_nil ?_
  repeat still_step
  refine wpStill_nil ?_
  go_wp2_with fail
  refine H5.out.mono ?_
  rintro e w' ⟨q, rfl, hq, hh⟩
  have hz' := hh.trans hZ5.out
  have hc' := cell_at (j := 0) hz' rfl
  have hf' := head_free hz' 0
  have HQ := Lib.hid hq
  have HZ' := Lib.hid hz'
  clear hq hh hz'
  go_wp2
  go_ret
  exact ⟨rfl, q, _, w', _, hB4.out.drew, HQ.out, HZ'.out, rfl⟩

/-- v is a list of the numbers xs, all of it in blocks of G, no block of it on two ways -/
def SListG (G : Nat → Prop) (w : World) (v : Value) (n : Nat) (xs : List Int) : Prop :=
  ∃ (b d o p : Nat) (S : Nat → Prop), v = .pointer (some ⟨b, 0, none⟩) ∧ G b ∧ (∀ x, S x → G x ∧ x ≠ b) ∧ w.heap[b]? = some (.cells #[.iface (ty d) (.pointer (some ⟨p, 0, none⟩)), .int .i64 (o : Int), .int .i64 (xs.length : Int)] 113 (0, 0)) ∧
    SNode w d S (.iface (ty d) (.pointer (some ⟨p, 0, none⟩))) (win o xs) ∧ Dep n d o xs.length
theorem SListG.list {G : Nat → Prop} {w : World} {v : Value} {n : Nat} {xs : List Int} (h : SListG G w v n xs) : IsList w v n xs := by
  obtain ⟨b, d, o, p, S, rfl, _, _, h1, h2, h3⟩ := h
  exact ⟨b, d, o, rfl, p, h1, h2.node.inS fun _ _ _ => trivial, h3⟩
theorem SListG.stay {G : Nat → Prop} {w w' : World} {v : Value} {n : Nat} {xs : List Int} (h : SListG G w v n xs) (s : Stay w w') : SListG G w' v n xs := by
  obtain ⟨b, d, o, p, S, rfl, k1, k2, h1, h2, h3⟩ := h
  exact ⟨b, d, o, p, S, rfl, k1, k2, s b _ 113 h1 (.inr (.inr (.inl rfl))), h2.stay s, h3⟩

/-- the post of a step in place -/
def SPostG (G : Nat → Prop) (w : World) (v : Value) (n : Nat) (xs : List Int) (e : Ending) (w' : World) : Prop := e = .returned v ∧ SListG G w' v n xs ∧ But G w w'

theorem smutG_end {G : Nat → Prop} {b d o n p : Nat} {w W V : World} {r : Value} {s : Int} {S : Nat → Prop} {g : Nat → Option Int} {xs : List Int} (hG : ∀ x, w.heap.size ≤ x → G x) (hB : w.heap.size ≤ W.heap.size) (hb : G b) (hS : ∀ x, S x → G x ∧ x ≠ b) (hbW : b < W.heap.size)
    (hW : But G w W) (hV : But S W V) (hn : SNode V d (New S W) (.iface (ty d) (.pointer (some ⟨p, 0, none⟩))) g)
    (hh : V.heap[b]? = some (.cells #[r, .int .i64 (o : Int), .int .i64 s] 113 (0, 0))) (hs : s = (xs.length : Int)) (hg : ∀ j y, win o xs j = some y → g j = some y) (hD : Dep n d o xs.length) :
    SPostG G w (.pointer (some ⟨b, 0, none⟩)) n xs (.returned (.pointer (some ⟨b, 0, none⟩))) (V.setCell ⟨b, 0, none⟩ (.iface (ty d) (.pointer (some ⟨p, 0, none⟩)))) := by
  subst hs
  have hset : But (· = b) V (V.setCell ⟨b, 0, none⟩ (.iface (ty d) (.pointer (some ⟨p, 0, none⟩)))) := (But.refl (· = b) V).setCell (p := ⟨b, 0, none⟩) (.inl rfl) _
  have hne : ∀ x, New S W x → G x ∧ x ≠ b := fun x hx => hx.elim (hS x) fun h => ⟨hG x (Nat.le_trans hB h), by omega⟩
  refine ⟨rfl, ⟨b, d, o, p, New S W, rfl, hb, hne, head_set0 hh _, ?_, hD⟩, ?_⟩
  · exact SNode.mono _ _ _ _ _ (hn.but hset fun x hx he => (hne x hx).2 he) fun j y _ hy => hg j y hy
  · exact (hW.trans (hV.wider fun x _ hx => (hS x hx).1)).trans (hset.wider fun x _ hx => by subst hx; exact hb)

theorem append_gsmut {G : Nat → Prop} {w : World} {v : Value} {n : Nat} {xs : List Int} (x : Int) (h : SListG G w v n xs) (hB : ∀ x, w.heap.size ≤ x → G x) (hn : n < 33554431) :
    Calls Try.prog 66 #[v, .int .i64 x, .bool true] w (SPostG G w v (n + 1) (xs ++ [x])) := by
  obtain ⟨b, d, o, p, S, rfl, hb, hS, h1, h2, h3⟩ := h
  have hat : ListAt w b n d o xs := ⟨p, h1, h2.node.inS fun _ _ _ => trivial, h3⟩
  have hbw : b < w.heap.size := lt_of_block h1
  have h2c : SNode w d (fun x => S x ∧ x < w.heap.size) (.iface (ty d) (.pointer (some ⟨p, 0, none⟩))) (win o xs) := h2.inS fun x h1 h2 => ⟨h1, h2⟩
  have hSc : ∀ x, (S x ∧ x < w.heap.size) → G x ∧ x ≠ b := fun x hx => hS x hx.1
  have hp := pow_le8 h3.2.2.1
  have hle := h3.2.1
  have hd7 := h3.2.2.1
  have hlocal : ∀ D, d ≤ D → loc ((o : Int) + xs.length) D = o + xs.length ∨ o + xs.length = 32 ^ (d + 1) := fun D hD => by
    rcases Nat.lt_or_ge (o + xs.length) (32 ^ (d + 1)) with h | h
    · left
      have e : ((o : Int) + xs.length) = ((o + xs.length : Nat) : Int) := by omega
      rw [e]
      exact loc_nat _ _ (Nat.lt_of_lt_of_le h (Nat.pow_le_pow_right (by decide) (by omega)))
    · right; omega
  rcases Nat.lt_or_ge (xs.length + o) (32 ^ d) with hlt | hge
  · have hloc : loc ((o : Int) + xs.length) d = o + xs.length := by
      rcases hlocal d (Nat.le_refl _) with h | h
      · exact h
      · have e : (32 : Nat) ^ (d + 1) = 32 ^ d * 32 := Nat.pow_succ _ _
        have := pos32 d
        omega
    refine (append_mut_w b p (fn 93 103 d) (ty d) o xs.length (32 ^ d) x w (fun W q V => q = p ∧ SNode V d (New (fun x => S x ∧ x < w.heap.size) W) (.iface (ty d) (.pointer (some ⟨p, 0, none⟩))) (upd (win o xs) (o + xs.length) x) ∧ But (fun x => S x ∧ x < w.heap.size) W V) (by omega) hlt h1
      (fun w' hb' hh => cap_any (n := n) (d := d) (o := o) (xs := xs) ⟨p, hh, ((h2c.but hb' fun x hx he => (hSc x hx).2 he).node).inS fun _ _ _ => trivial, h3⟩) (disp_ty disp_set0 disp_set1 d) (fun w' hb' => ?_)).mono ?_
    · have := set_mut ((o : Int) + xs.length) x d _ w' p _ (by omega) (h2c.but hb' fun x hx he => (hSc x hx).2 he)
      rw [hloc] at this
      refine this.mono ?_
      rintro e w'' ⟨rfl, k1, k2⟩
      exact ⟨p, rfl, ⟨rfl, k1, k2⟩, k2.block b (Nat.lt_of_lt_of_le hbw hb'.size) fun h => (hSc b h).2 rfl⟩
    · rintro e w' ⟨rfl, q, W, V, hW, ⟨rfl, hn', hV⟩, hh, rfl⟩
      refine smutG_end hB hW.size hb hSc (Nat.lt_of_lt_of_le hbw hW.size) (hW.wider fun x _ hx => by subst hx; exact hb) hV hn' hh (by simp) (fun j y hy => ?_) (by simpa using dep_append_room h3 hlt hn)
      rw [win_append] at hy; exact hy
  · have hD := dep_append_grow h3 hge hn
    have hd6 : d ≤ 6 := by have := hD.2.2.1; omega
    have hloc : loc ((o : Int) + xs.length) (d + 1) = o + xs.length := by
      have e : ((o : Int) + xs.length) = ((o + xs.length : Nat) : Int) := by omega
      rw [e]
      have e2 : (32 : Nat) ^ (d + 1 + 1) = 32 ^ (d + 1) * 32 := Nat.pow_succ _ _
      have := pos32 (d + 1)
      exact loc_nat _ _ (by omega)
    refine (append_gmut_w b d p 103 (fn 91 101 d) (ty d) o xs.length (32 ^ d) x w (fun W q V => ∃ N, q = N ∧ w.heap.size ≤ N ∧ SNode V (d + 1) (New (fun x => (S x ∧ x < w.heap.size) ∨ x = N) W) (.iface 122 (.pointer (some ⟨N, 0, none⟩))) (upd (win o xs) (o + xs.length) x) ∧ But (fun x => (S x ∧ x < w.heap.size) ∨ x = N) W V)
      (by omega) (by omega) hge h1 (fun w' hb' => cap_any (hat.stay (Stay.of_below hb'))) (disp_ty disp_depth0 disp_depth1 d)
      (fun w' hb' => depth_any (Node.stay (Stay.of_below hb') _ _ _ h2.node)) disp_set1 (fun w' N hb' hNN hN => ?_)).mono ?_
    · have hr : SNode w' (d + 1) (fun x => (S x ∧ x < w.heap.size) ∨ x = N) (.iface 122 (.pointer (some ⟨N, 0, none⟩))) (win o xs) := by
        refine snew_root (S := fun x => S x ∧ x < w.heap.size) hN (by omega) (fun h => by have := h.2; omega) (h2c.but hb' fun x hx he => (hSc x hx).2 he) (fun j y hj hy => by rw [Nat.zero_mul, Nat.zero_add] at hy; exact hy) fun k j hk hk0 hj => ?_
        apply win_none
        have : 1 * 32 ^ (d + 1) ≤ k * 32 ^ (d + 1) := Nat.mul_le_mul_right _ (by omega)
        omega
      have := set_mut ((o : Int) + xs.length) x (d + 1) _ w' N _ (by omega) hr
      rw [hloc] at this
      refine this.mono ?_
      rintro e w'' ⟨rfl, k1, k2⟩
      refine ⟨N, rfl, ⟨N, rfl, hNN, k1, k2⟩, k2.block b (Nat.lt_of_lt_of_le hbw hb'.size) fun h => ?_⟩
      rcases h with h | h
      · exact (hSc b h).2 rfl
      · omega
    · rintro e w' ⟨rfl, q, W, V, r, hW, ⟨N, rfl, hNN, hn', hV⟩, hh, rfl⟩
      refine smutG_end (d := d + 1) hB hW.size hb (fun x hx => ?_) (Nat.lt_of_lt_of_le hbw hW.size) (hW.wider fun x _ hx => by subst hx; exact hb) hV hn' hh (by simp) (fun j y hy => ?_) (by simpa using hD) 
      · rcases hx with hx | hx
        · exact hSc x hx
        · subst hx; exact ⟨hB _ hNN, by omega⟩
      · rw [win_append] at hy; exact hy

theorem set_gsmut {G : Nat → Prop} {w : World} {v : Value} {n i : Nat} {xs : List Int} (x : Int) (h : SListG G w v n xs) (hB : ∀ x, w.heap.size ≤ x → G x) (hi : i < xs.length) :
    Calls Try.prog 68 #[v, .int .i64 (i : Int), .int .i64 x, .bool true] w (SPostG G w v n (xs.set i x)) := by
  obtain ⟨b, d, o, p, S, rfl, hb, hS, h1, h2, h3⟩ := h
  have hbw : b < w.heap.size := lt_of_block h1
  have h2c : SNode w d (fun x => S x ∧ x < w.heap.size) (.iface (ty d) (.pointer (some ⟨p, 0, none⟩))) (win o xs) := h2.inS fun x h1 h2 => ⟨h1, h2⟩
  have hSc : ∀ x, (S x ∧ x < w.heap.size) → G x ∧ x ≠ b := fun x hx => hS x hx.1
  have hp := pow_le8 h3.2.2.1
  have hle := h3.2.1
  have hd7 := h3.2.2.1
  have hloc : loc ((o : Int) + i) d = o + i := by
    have e : ((o : Int) + i) = ((o + i : Nat) : Int) := by omega
    rw [e]
    exact loc_nat _ _ (by omega)
  refine (lset_mut_w b p (fn 93 103 d) (ty d) o xs.length i x w (fun W q V => q = p ∧ SNode V d (New (fun x => S x ∧ x < w.heap.size) W) (.iface (ty d) (.pointer (some ⟨p, 0, none⟩))) (upd (win o xs) (o + i) x) ∧ But (fun x => S x ∧ x < w.heap.size) W V) hi (by omega) h1
    (disp_ty disp_set0 disp_set1 d) (fun w' hb' => ?_)).mono ?_
  · have := set_mut ((o : Int) + i) x d _ w' p _ (by omega) (h2c.but hb' fun x hx he => (hSc x hx).2 he)
    rw [hloc] at this
    refine this.mono ?_
    rintro e w'' ⟨rfl, k1, k2⟩
    exact ⟨p, rfl, ⟨rfl, k1, k2⟩, k2.block b (Nat.lt_of_lt_of_le hbw hb'.size) fun h => (hSc b h).2 rfl⟩
  · rintro e w' ⟨rfl, q, W, V, hW, ⟨rfl, hn', hV⟩, hh, rfl⟩
    refine smutG_end (xs := xs.set i x) hB hW.size hb hSc (Nat.lt_of_lt_of_le hbw hW.size) (hW.wider fun x _ hx => by subst hx; exact hb) hV hn' hh (by simp) (fun j y hy => ?_) (by simpa using h3) 
    rw [win_set hi] at hy; exact hy

theorem prepend_gsmut {G : Nat → Prop} {w : World} {v : Value} {n : Nat} {xs : List Int} (x : Int) (h : SListG G w v n xs) (hB : ∀ x, w.heap.size ≤ x → G x) (hn : n < 33554431) :
    Calls Try.prog 67 #[v, .int .i64 x, .bool true] w (SPostG G w v (n + 1) (x :: xs)) := by
  obtain ⟨b, d, o, p, S, rfl, hb, hS, h1, h2, h3⟩ := h
  have hbw : b < w.heap.size := lt_of_block h1
  have h2c : SNode w d (fun x => S x ∧ x < w.heap.size) (.iface (ty d) (.pointer (some ⟨p, 0, none⟩))) (win o xs) := h2.inS fun x h1 h2 => ⟨h1, h2⟩
  have hSc : ∀ x, (S x ∧ x < w.heap.size) → G x ∧ x ≠ b := fun x hx => hS x hx.1
  have hp := pow_le8 h3.2.2.1
  have hle := h3.2.1
  have hd7 := h3.2.2.1
  rcases Nat.eq_zero_or_pos o with h0 | h0
  · subst h0
    obtain ⟨hd5, hD⟩ := dep_prepend_grow h3 hn
    have hpos := pos32 (d + 1)
    have e2 : (32 : Nat) ^ (d + 1 + 1) = 32 ^ (d + 1) * 32 := Nat.pow_succ _ _
    have ec : ((31 * 32 ^ (d + 1) : Nat) : Int) - 1 = ((31 * 32 ^ (d + 1) - 1 : Nat) : Int) := by omega
    have hloc : loc (((31 * 32 ^ (d + 1) : Nat) : Int) - 1) (d + 1) = 31 * 32 ^ (d + 1) - 1 := by
      rw [ec]
      exact loc_nat _ _ (by omega)
    refine (prepend_gmut_w b d p 103 (fn 91 101 d) (ty d) xs.length (31 * 32 ^ (d + 1)) x w (fun W q V => ∃ N, q = N ∧ w.heap.size ≤ N ∧ SNode V (d + 1) (New (fun x => (S x ∧ x < w.heap.size) ∨ x = N) W) (.iface 122 (.pointer (some ⟨N, 0, none⟩))) (upd (win (31 * 32 ^ (d + 1)) xs) (31 * 32 ^ (d + 1) - 1) x) ∧ But (fun x => (S x ∧ x < w.heap.size) ∨ x = N) W V)
      (by omega) rfl (by omega) h1 (disp_ty disp_depth0 disp_depth1 d) (fun w' hb' => depth_any (Node.stay (Stay.of_below hb') _ _ _ h2.node)) disp_set1 (fun w' N hb' hNN hN => ?_)).mono ?_
    · have hr : SNode w' (d + 1) (fun x => (S x ∧ x < w.heap.size) ∨ x = N) (.iface 122 (.pointer (some ⟨N, 0, none⟩))) (win (31 * 32 ^ (d + 1)) xs) := by
        refine snew_root (S := fun x => S x ∧ x < w.heap.size) hN (by omega) (fun h => by have := h.2; omega) (h2c.but hb' fun x hx he => (hSc x hx).2 he) (fun j y hj hy => ?_) fun k j hk hk0 hj => ?_
        · have := win_shift (o := 0) (m := 31 * 32 ^ (d + 1)) (xs := xs) j
          rw [Nat.add_zero] at this
          rw [← this]; exact hy
        · unfold win
          rw [if_neg]
          have := mul_mono_lt (M := 32 ^ (d + 1)) (r := 0) (show k < 31 by omega) hj
          omega
      have := set_mut (((31 * 32 ^ (d + 1) : Nat) : Int) - 1) x (d + 1) _ w' N _ (by omega) hr
      rw [hloc] at this
      refine this.mono ?_
      rintro e w'' ⟨rfl, k1, k2⟩
      refine ⟨N, rfl, ⟨N, rfl, hNN, k1, k2⟩, k2.block b (Nat.lt_of_lt_of_le hbw hb'.size) fun h => ?_⟩
      rcases h with h | h
      · exact (hSc b h).2 rfl
      · omega
    · rintro e w' ⟨rfl, q, W, V, r, hW, ⟨N, rfl, hNN, hn', hV⟩, hh, rfl⟩
      rw [ec] at hh
      refine smutG_end (d := d + 1) (xs := x :: xs) hB hW.size hb (fun x hx => ?_) (Nat.lt_of_lt_of_le hbw hW.size) (hW.wider fun x _ hx => by subst hx; exact hb) hV hn' hh (by simp) (fun j y hy => ?_) (by simpa using hD) 
      · rcases hx with hx | hx
        · exact hSc x hx
        · subst hx; exact ⟨hB _ hNN, by omega⟩
      · rw [← win_prepend (by omega)]; exact hy
  · have ec : (o : Int) - 1 = ((o - 1 : Nat) : Int) := by omega
    have hloc : loc ((o : Int) - 1) d = o - 1 := by
      rw [ec]
      exact loc_nat _ _ (by omega)
    refine (prepend_mut_w b p (fn 93 103 d) (ty d) o xs.length x w (fun W q V => q = p ∧ SNode V d (New (fun x => S x ∧ x < w.heap.size) W) (.iface (ty d) (.pointer (some ⟨p, 0, none⟩))) (upd (win o xs) (o - 1) x) ∧ But (fun x => S x ∧ x < w.heap.size) W V) (by omega) h0 h1
      (disp_ty disp_set0 disp_set1 d) (fun w' hb' => ?_)).mono ?_
    · have := set_mut ((o : Int) - 1) x d _ w' p _ (by omega) (h2c.but hb' fun x hx he => (hSc x hx).2 he)
      rw [hloc] at this
      refine this.mono ?_
      rintro e w'' ⟨rfl, k1, k2⟩
      exact ⟨p, rfl, ⟨rfl, k1, k2⟩, k2.block b (Nat.lt_of_lt_of_le hbw hb'.size) fun h => (hSc b h).2 rfl⟩
    · rintro e w' ⟨rfl, q, W, V, hW, ⟨rfl, hn', hV⟩, hh, rfl⟩
      rw [ec] at hh
      refine smutG_end (xs := x :: xs) hB hW.size hb hSc (Nat.lt_of_lt_of_le hbw hW.size) (hW.wider fun x _ hx => by subst hx; exact hb) hV hn' hh (by simp) (fun j y hy => ?_) (by simpa using dep_prepend_room h3 h0)
      rw [← win_prepend h0]; exact hy

end Go.Proofs.Ytnahipfdnadccaa
