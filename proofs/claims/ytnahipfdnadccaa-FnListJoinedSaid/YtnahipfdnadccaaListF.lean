/- The walks over a list: Prepend where the tree grows. -/
import Derived.Test.YtnahipfdnadccaaListE
namespace Go.Proofs.Ytnahipfdnadccaa
open Go.RowKit

theorem Node.drewn {S : Nat → Prop} {w : World} {d : Nat} {v : Value} {f : Nat → Option Int} (h : Node S w d v f) : Node S w.drew d v f :=
  Node.stay (w := w) (w' := w.drew) (fun _ _ _ h _ => h) _ _ _ h

set_option maxRecDepth 100000 in
set_option maxHeartbeats 1600000 in
theorem prepend_grow_w (b d p fid fid' t k s c : Nat) (f g : Nat → Option Int) (x : Int) (w : World) (hdd : d < 8) (hc : c = 31 * 32 ^ (d + 1)) (hs : s ≤ 1152921504606846976) (ht : t = ty d)
    (hblk : w.heap[b]? = some (.cells #[.iface t (.pointer (some ⟨p, 0, none⟩)), .int .i64 0, .int .i64 (s : Int)] 113 (0, 0)))
    (hnode : Node Any w d (.iface (ty d) (.pointer (some ⟨p, 0, none⟩))) f)
    (hg : ∀ V N, V.heap[N]? = some (.cells (((zbranch (d + 1)).toArray).setIfInBounds (1 + 31) (.iface (ty d) (.pointer (some ⟨p, 0, none⟩)))) 125 (0, 0)) → Node Any V d (.iface (ty d) (.pointer (some ⟨p, 0, none⟩))) f → Node Any V (d + 1) (.iface 122 (.pointer (some ⟨N, 0, none⟩))) g)
    (h0' : Disp t fid' "pub-frond/pub/immutable.depth") (hdep : ∀ w', Below w.heap.size w w' → Calls Try.prog fid' #[.pointer (some ⟨p, 0, none⟩)] w' fun e w'' => e = .returned (.int .u64 (d : Int)) ∧ w' = w'')
    (h0 : Disp 122 fid "pub-frond/pub/immutable.set") (h4 : ∀ w' q, Node Any w' (d + 1) (.iface 122 (.pointer (some ⟨q, 0, none⟩))) g → Calls Try.prog fid #[.pointer (some ⟨q, 0, none⟩), .int .i64 ((c : Int) - 1), .int .i64 x, .bool false] w' (SetPost Any w' (d + 1) g k x)) :
    Calls Try.prog 67 #[.pointer (some ⟨b, 0, none⟩), .int .i64 x, .bool false] w (HeadPost w (d + 1) ((c : Int) - 1) ((s : Int) + 1) (upd g k x)) := by
  obtain ⟨h1, h2, h3⟩ := h0
  obtain ⟨h1', h2', h3'⟩ := h0'
  obtain ⟨h1'', h2'', h3''⟩ := disp_depth1
  have H4 := Lib.hid h4; clear h4
  have HT := Lib.hid ht; clear ht
  have HD := Lib.hid hdep; clear hdep
  have HG := Lib.hid hg; clear hg
  have HN0 := Lib.hid hnode; clear hnode
  have HC := Lib.hid hc; clear hc
  go_enter Try.func67, Try.ntmps67
  go_wp2_with (go_at_call 70; refine (clone_w b t p 0 s _ hblk).mono ?_; rintro e w' ⟨rfl, rfl⟩)
  have hZ : Hid ((w.alloc (Obj.cells #[.iface t (.pointer (some ⟨p, 0, none⟩)), .int .i64 0, .int .i64 (s : Int)] 113)).heap[w.heap.size]? = some (.cells #[.iface t (.pointer (some ⟨p, 0, none⟩)), .int .i64 0, .int .i64 (s : Int)] 113 (0, 0))) := heap_alloc_last w _
  have hB : Hid (Below w.heap.size w (w.alloc (Obj.cells #[.iface t (.pointer (some ⟨p, 0, none⟩)), .int .i64 0, .int .i64 (s : Int)] 113))) := (Below.refl _ _).alloc (Nat.le_refl _) _
  generalize hW : w.alloc (Obj.cells #[.iface t (.pointer (some ⟨p, 0, none⟩)), .int .i64 0, .int .i64 (s : Int)] 113) = W at hZ hB ⊢
  clear hW hblk
  refine (HD.out _ hB.out).mono ?_
  rintro e w' ⟨rfl, rfl⟩
  go_wp2_with fail
  change Code.wp _ _ _ _ (W.alloc (Obj.cells (zbranch (d + 1)).toArray 125))
  have hN : Hid ((W.alloc (Obj.cells (zbranch (d + 1)).toArray 125)).heap[W.heap.size]? = some (.cells (zbranch (d + 1)).toArray 125 (0, 0))) := heap_alloc_last W _
  have hB1 : Below W.heap.size W (W.alloc (Obj.cells (zbranch (d + 1)).toArray 125)) := ((Below.refl _ _).alloc (Nat.le_refl _) _)
  have hL : Hid ((W.alloc (Obj.cells (zbranch (d + 1)).toArray 125)).heap[w.heap.size]? = some (.cells #[.iface t (.pointer (some ⟨p, 0, none⟩)), .int .i64 0, .int .i64 (s : Int)] 113 (0, 0))) := (hB1.block _ (lt_of_block hZ.out)).trans hZ.out
  have hlt : w.heap.size < W.heap.size := lt_of_block hZ.out
  have hB2 := Lib.hid (hB.out.trans (hB1.mono (by omega)))
  generalize hV : W.alloc (Obj.cells (zbranch (d + 1)).toArray 125) = V at hN hL hB2 ⊢
  generalize W.heap.size = N at hN hlt ⊢
  clear hV hB1 hZ hB HD W
  obtain ⟨hd0, hd1, hd2⟩ := head_cells hL.out
  have hf0 := head_free hL.out 0
  have hne1 : ¬ w.heap.size = N := by omega
  have hne2 : ¬ N = w.heap.size := by omega
  have hn1 : V.cell? ⟨N, 32, none⟩ = some .nilIface := cell_at hN.out rfl
  have hnf : V.frozen? ⟨N, 32, none⟩ = false := frozen_of_row _ _ _ _ _ hN.out
  refine region_tail 8 (by kernel_rfl) (by kernel_rfl) ?_
  simp only [List.take_succ_cons, List.take_zero, List.drop_succ_cons, List.drop_zero]
  repeat still_step
  refine wpStill_nil ?_
  go_wp2_with fail
  have hN1 : (V.setCell ⟨N, 32, none⟩ (.iface t (.pointer (some ⟨p, 0, none⟩)))).heap[N]? = some (.cells ((zbranch (d + 1)).toArray.setIfInBounds (1 + 31) (.iface t (.pointer (some ⟨p, 0, none⟩)))) 125 (0, 0)) := heap_setCell_same _ _ _ _ _ _ hN.out
  have hL1 : (V.setCell ⟨N, 32, none⟩ (.iface t (.pointer (some ⟨p, 0, none⟩)))).heap[w.heap.size]? = some (.cells #[.iface t (.pointer (some ⟨p, 0, none⟩)), .int .i64 0, .int .i64 (s : Int)] 113 (0, 0)) := by
    rw [heap_setCell_other _ _ _ _ (by show w.heap.size ≠ N; omega)]; exact hL.out
  have hL2 : ((V.setCell ⟨N, 32, none⟩ (.iface t (.pointer (some ⟨p, 0, none⟩)))).setCell ⟨w.heap.size, 0, none⟩ (.iface 122 (.pointer (some ⟨N, 0, none⟩)))).drew.heap[w.heap.size]? = some (.cells #[.iface 122 (.pointer (some ⟨N, 0, none⟩)), .int .i64 0, .int .i64 (s : Int)] 113 (0, 0)) := head_set0 hL1 _
  have hN2 : ((V.setCell ⟨N, 32, none⟩ (.iface t (.pointer (some ⟨p, 0, none⟩)))).setCell ⟨w.heap.size, 0, none⟩ (.iface 122 (.pointer (some ⟨N, 0, none⟩)))).drew.heap[N]? = some (.cells ((zbranch (d + 1)).toArray.setIfInBounds (1 + 31) (.iface t (.pointer (some ⟨p, 0, none⟩)))) 125 (0, 0)) := by
    rw [heap_drew, heap_setCell_other _ _ _ _ (by show N ≠ w.heap.size; omega)]; exact hN1
  have hB3 := Lib.hid (((hB2.out.setCell (p := ⟨N, 32, none⟩) (by show w.heap.size ≤ N; omega) (.iface t (.pointer (some ⟨p, 0, none⟩)))).setCell (p := ⟨w.heap.size, 0, none⟩) (Nat.le_refl _) (.iface 122 (.pointer (some ⟨N, 0, none⟩)))).drew)
  generalize hU : ((V.setCell ⟨N, 32, none⟩ (.iface t (.pointer (some ⟨p, 0, none⟩)))).setCell ⟨w.heap.size, 0, none⟩ (.iface 122 (.pointer (some ⟨N, 0, none⟩)))).drew = U at hL2 hN2 hB3 ⊢
  have HNode : Hid (Node Any U (d + 1) (.iface 122 (.pointer (some ⟨N, 0, none⟩))) g) := HG.out U N (by rw [HT.out] at hN2; exact hN2) (Node.stay (Stay.of_below hB3.out) _ _ _ HN0.out)
  have hZ2 := Lib.hid hL2
  have hdn : Hid (U.cell? ⟨N, 0, none⟩ = some (.int .u64 ((d : Int) + 1))) := cell_at hN2 (by rw [Array.getElem?_setIfInBounds_ne (by omega)]; rfl)
  clear hU hN1 hL1 hL2 hN2 hL hN hB2 hd0 hd1 hd2 hf0 hn1 hnf V HN0 HG HT
  obtain ⟨hd0, hd1, hd2⟩ := head_cells hZ2.out
  have hf1 := head_free hZ2.out 1
  have hf2 := head_free hZ2.out 2
  have hw0 : IntKind.u64.wrap (((d : Int) + 1) * 5) = ((d : Int) + 1) * 5 := by rw [IntKind.wrap_u64]; omega
  have hw0a : 0 ≤ ((d : Int) + 1) * 5 := by omega
  have hw0b : ((d : Int) + 1) * 5 ≤ 64 := by omega
  have hw0c : (((d : Int) + 1) * 5).toNat = (d + 1) * 5 := by omega
  have hcv : (31 : Int) * 2 ^ ((d + 1) * 5) = (c : Int) := by rw [HC.out, pow25, Int.natCast_mul, cast32]; rfl
  have hcb : (c : Int) ≤ 1152921504606846976 := by
    rw [HC.out]
    have h1 : (32 : Nat) ^ (d + 1) ≤ 32 ^ 8 := Nat.pow_le_pow_right (by decide) (by omega)
    have h2 : (32 : Nat) ^ 8 = 1099511627776 := by decide
    omega
  have hcp : (1 : Int) ≤ (c : Int) := by
    rw [HC.out]
    have := pos32 (d + 1)
    omega
  have hw1 : IntKind.i64.wrap (c : Int) = (c : Int) := by rw [IntKind.wrap_i64]; omega
  have hcall : Hid (Calls Try.prog 101 #[.pointer (some ⟨N, 0, none⟩)] U.drew fun e w'' => e = .returned (.int .u64 ((d : Int) + 1)) ∧ w'' = U.drew) := (depth_w1 N _ U.drew hdn.out).mono fun e w'' h => ⟨h.1, h.2.symm⟩
  refine region_tail 14 (by kernel_rfl) (by kernel_rfl) ?_
  simp only [List.take_succ_cons, List.take_zero, List.drop_succ_cons, List.drop_zero]
  repeat still_step
  still_call (hcall.out)
  repeat still_step
  refine wpStill_nil ?_
  clear hw0 hw0a hw0b hw0c hcv hw1
  go_wp2_with fail
  have hL4 : (((U.setCell ⟨w.heap.size, 1, none⟩ (.int .i64 (c : Int))).setCell ⟨w.heap.size, 2, none⟩ (.int .i64 ((s : Int) + 1))).setCell ⟨w.heap.size, 1, none⟩ (.int .i64 ((c : Int) - 1))).drew.heap[w.heap.size]? = some (.cells #[.iface 122 (.pointer (some ⟨N, 0, none⟩)), .int .i64 ((c : Int) - 1), .int .i64 ((s : Int) + 1)] 113 (0, 0)) := head_set1 (head_set2' (head_set1 hZ2.out _) _) _
  have hB4 := Lib.hid ((((hB3.out.setCell (p := ⟨w.heap.size, 1, none⟩) (Nat.le_refl _) (.int .i64 (c : Int))).setCell (p := ⟨w.heap.size, 2, none⟩) (Nat.le_refl _) (.int .i64 ((s : Int) + 1))).setCell (p := ⟨w.heap.size, 1, none⟩) (Nat.le_refl _) (.int .i64 ((c : Int) - 1))).drew)
  have HNode2 : Hid (Node Any (((U.setCell ⟨w.heap.size, 1, none⟩ (.int .i64 (c : Int))).setCell ⟨w.heap.size, 2, none⟩ (.int .i64 ((s : Int) + 1))).setCell ⟨w.heap.size, 1, none⟩ (.int .i64 ((c : Int) - 1))).drew (d + 1) (.iface 122 (.pointer (some ⟨N, 0, none⟩))) g) :=
    Node.drewn (node_head (head_set2' (head_set1 hZ2.out _) _) (node_head (head_set1 hZ2.out _) (node_head hZ2.out HNode.out)))
  generalize hX : (((U.setCell ⟨w.heap.size, 1, none⟩ (.int .i64 (c : Int))).setCell ⟨w.heap.size, 2, none⟩ (.int .i64 ((s : Int) + 1))).setCell ⟨w.heap.size, 1, none⟩ (.int .i64 ((c : Int) - 1))).drew = X at hL4 hB4 HNode2 ⊢
  have hZ5 := Lib.hid hL4
  clear hX hL4 hZ2 hB3 HNode hd0 hd1 hd2 hf1 hf2 hdn hcall U
  obtain ⟨hd0, hd1, hd2⟩ := head_cells hZ5.out
  have H5 : Hid (Calls Try.prog fid #[.pointer (some ⟨N, 0, none⟩), .int .i64 ((c : Int) - 1), .int .i64 x, .bool false] X.drew (SetPost Any X.drew (d + 1) g k x)) := H4.out _ N (Node.stay (w := X) (w' := X.drew) (fun _ _ _ h _ => h) _ _ _ HNode2.out)
  refine region_fix [0] [1, 2, 3, 4, 5, 6, 7, 8, 9, 10, 11, 12] [13, 14, 15, 16] (by kernel_rfl) (by intro dst v c a w h; cases dst <;> exact h) (by kernel_rfl) ?_
  simp only [opsOf, List.getElem?_toArray, List.getElem?_cons_succ, List.getElem?_cons_zero]
  refine wpPure_step ?_ rfl (fun W => ?_) ?_; rotate_left 1; · go_simp; try with_reducible rfl
  refine wpPure_nil ?_
  repeat still_step
  refine wpStill_nil ?_
  go_wp2_with fail
  refine H5.out.mono ?_
  rintro e w' ⟨v', rfl, hn, hb⟩
  obtain ⟨q, rfl⟩ := hn.ptr
  have hz' := after_cell hZ5 hb
  have hc' := cell_at (j := 0) hz' rfl
  have hf' := head_free hz' 0
  have HN := Lib.hid (And.intro hn hb)
  have HZ' := Lib.hid hz'
  clear hn hb hz'
  go_wp2
  go_ret
  exact head_end rfl rfl (Nat.le_refl _) hB4.out HZ'.out HN.out.1 HN.out.2

end Go.Proofs.Ytnahipfdnadccaa
