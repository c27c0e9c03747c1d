/- The walks over a list: Append where the tree grows. -/
import Derived.Test.YtnahipfdnadccaaListC
namespace Go.Proofs.Ytnahipfdnadccaa
open Go.RowKit

/-- a new root over a node: child number m, the others none -/
theorem new_root {_W V : World} {N d m q : Nat} {f g : Nat → Option Int} (hN : V.heap[N]? = some (.cells (((zbranch (d + 1)).toArray).setIfInBounds (1 + m) (.iface (ty d) (.pointer (some ⟨q, 0, none⟩)))) 125 (0, 0))) (hm : m < 32)
    (hn : Node Any V d (.iface (ty d) (.pointer (some ⟨q, 0, none⟩))) f) (h1 : ∀ j y, j < 32 ^ (d + 1) → g (m * 32 ^ (d + 1) + j) = some y → f j = some y) (h2 : ∀ k j, k < 32 → k ≠ m → j < 32 ^ (d + 1) → g (k * 32 ^ (d + 1) + j) = none) :
    Node Any V (d + 1) (.iface 122 (.pointer (some ⟨N, 0, none⟩))) g := by
  refine ⟨N, _, rfl, hN, by rw [Array.size_setIfInBounds]; exact zbranch_len (d + 1), ?_, fun k hk => ?_, trivial⟩
  · rw [Array.getElem?_setIfInBounds_ne (by omega)]; rfl
  · by_cases e : k = m
    · subst e
      exact ⟨_, by rw [Array.getElem?_setIfInBounds_self_of_lt (by rw [List.size_toArray, zbranch_len]; omega)], .inr (Node.mono _ _ _ _ hn fun j y hj hy => h1 j y hj hy)⟩
    · exact ⟨_, by rw [Array.getElem?_setIfInBounds_ne (by omega)]; rw [List.getElem?_toArray]; exact zbranch_get (d + 1) k hk, .inl ⟨rfl, fun j hj => h2 k j hk e hj⟩⟩

set_option maxRecDepth 100000 in
set_option maxHeartbeats 1600000 in
theorem append_grow_w (b d p fid fid' t k o s c : Nat) (f g : Nat → Option Int) (x : Int) (w : World) (hdd : d < 12) (ho : o + s ≤ 1152921504606846976) (hle : c ≤ s + o) (ht : t = ty d)
    (hblk : w.heap[b]? = some (.cells #[.iface t (.pointer (some ⟨p, 0, none⟩)), .int .i64 (o : Int), .int .i64 (s : Int)] 113 (0, 0)))
    (hnode : Node Any w d (.iface (ty d) (.pointer (some ⟨p, 0, none⟩))) f)
    (hg : ∀ V N, V.heap[N]? = some (.cells (((zbranch (d + 1)).toArray).setIfInBounds (1 + 0) (.iface (ty d) (.pointer (some ⟨p, 0, none⟩)))) 125 (0, 0)) → Node Any V d (.iface (ty d) (.pointer (some ⟨p, 0, none⟩))) f → Node Any V (d + 1) (.iface 122 (.pointer (some ⟨N, 0, none⟩))) g)
    (hcap : ∀ w', Below w.heap.size w w' → Calls Try.prog 71 #[.pointer (some ⟨b, 0, none⟩)] w' fun e w'' => e = .returned (.int .i64 (c : Int)) ∧ w'' = w')
    (h0' : Disp t fid' "pub-frond/pub/immutable.depth") (hdep : ∀ w', Below w.heap.size w w' → Calls Try.prog fid' #[.pointer (some ⟨p, 0, none⟩)] w' fun e w'' => e = .returned (.int .u64 (d : Int)) ∧ w' = w'')
    (h0 : Disp 122 fid "pub-frond/pub/immutable.set") (h4 : ∀ w' q, Node Any w' (d + 1) (.iface 122 (.pointer (some ⟨q, 0, none⟩))) g → Calls Try.prog fid #[.pointer (some ⟨q, 0, none⟩), .int .i64 ((o : Int) + s), .int .i64 x, .bool false] w' (SetPost Any w' (d + 1) g k x)) :
    Calls Try.prog 66 #[.pointer (some ⟨b, 0, none⟩), .int .i64 x, .bool false] w (HeadPost w (d + 1) o ((s : Int) + 1) (upd g k x)) := by
  obtain ⟨h1, h2, h3⟩ := h0
  obtain ⟨h1', h2', h3'⟩ := h0'
  have H4 := Lib.hid h4; clear h4
  have HC := Lib.hid hcap; clear hcap
  have HT := Lib.hid ht; clear ht
  have HD := Lib.hid hdep; clear hdep
  have HG := Lib.hid hg; clear hg
  have HN0 := Lib.hid hnode; clear hnode
  go_enter Try.func66, Try.ntmps66
  go_wp2_with (go_at_call 70; refine (clone_w b t p o s _ hblk).mono ?_; rintro e w' ⟨rfl, rfl⟩)
  have hZ : Hid ((w.alloc (Obj.cells #[.iface t (.pointer (some ⟨p, 0, none⟩)), .int .i64 (o : Int), .int .i64 (s : Int)] 113)).heap[w.heap.size]? = some (.cells #[.iface t (.pointer (some ⟨p, 0, none⟩)), .int .i64 (o : Int), .int .i64 (s : Int)] 113 (0, 0))) := heap_alloc_last w _
  have hB : Hid (Below w.heap.size w (w.alloc (Obj.cells #[.iface t (.pointer (some ⟨p, 0, none⟩)), .int .i64 (o : Int), .int .i64 (s : Int)] 113))) := (Below.refl _ _).alloc (Nat.le_refl _) _
  generalize hW : w.alloc (Obj.cells #[.iface t (.pointer (some ⟨p, 0, none⟩)), .int .i64 (o : Int), .int .i64 (s : Int)] 113) = W at hZ hB ⊢
  clear hW hblk
  obtain ⟨hd0, hd1, hd2⟩ := head_cells hZ.out
  have hw1 : IntKind.i64.wrap ((s : Int) + o) = (s : Int) + o := by rw [IntKind.wrap_i64]; omega
  have hge : decide ((c : Int) ≤ (s : Int) + o) = true := by simp; omega
  refine region_still (by kernel_rfl) (by kernel_rfl) ?_
  repeat still_step
  still_call (HC.out _ hB.out.drew)
  repeat still_step
  refine wpStill_nil ?_
  go_wp2_with fail
  refine (HD.out _ hB.out.drew).mono ?_
  rintro e w' ⟨rfl, rfl⟩
  go_wp2_with fail
  change Code.wp _ _ _ _ (W.alloc (Obj.cells (zbranch (d + 1)).toArray 125)).drew
  have hN : Hid ((W.alloc (Obj.cells (zbranch (d + 1)).toArray 125)).drew.heap[W.heap.size]? = some (.cells (zbranch (d + 1)).toArray 125 (0, 0))) := heap_alloc_last W _
  have hB1 : Below W.heap.size W (W.alloc (Obj.cells (zbranch (d + 1)).toArray 125)).drew := ((Below.refl _ _).alloc (Nat.le_refl _) _).drew
  have hL : Hid ((W.alloc (Obj.cells (zbranch (d + 1)).toArray 125)).drew.heap[w.heap.size]? = some (.cells #[.iface t (.pointer (some ⟨p, 0, none⟩)), .int .i64 (o : Int), .int .i64 (s : Int)] 113 (0, 0))) := (hB1.block _ (lt_of_block hZ.out)).trans hZ.out
  have hlt : w.heap.size < W.heap.size := lt_of_block hZ.out
  have hB2 := Lib.hid (hB.out.trans (hB1.mono (by omega)))
  generalize hV : (W.alloc (Obj.cells (zbranch (d + 1)).toArray 125)).drew = V at hN hL hB2 ⊢
  generalize W.heap.size = N at hN hlt ⊢
  clear hV hB1 hZ hB hd0 hd1 hd2 hw1 hge HC HD W
  obtain ⟨hd0, hd1, hd2⟩ := head_cells hL.out
  have hf0 := head_free hL.out 0
  have hf2 := head_free hL.out 2
  have hne1 : ¬ w.heap.size = N := by omega
  have hne2 : ¬ N = w.heap.size := by omega
  have hn1 : V.cell? ⟨N, 1, none⟩ = some .nilIface := cell_at hN.out rfl
  have hnf : V.frozen? ⟨N, 1, none⟩ = false := frozen_of_row _ _ _ _ _ hN.out
  refine region_tail 8 (by kernel_rfl) (by kernel_rfl) ?_
  simp only [List.take_succ_cons, List.take_zero, List.drop_succ_cons, List.drop_zero]
  repeat still_step
  refine wpStill_nil ?_
  go_wp2_with fail
  have hN1 : (V.setCell ⟨N, 1, none⟩ (.iface t (.pointer (some ⟨p, 0, none⟩)))).heap[N]? = some (.cells ((zbranch (d + 1)).toArray.setIfInBounds (1 + 0) (.iface t (.pointer (some ⟨p, 0, none⟩)))) 125 (0, 0)) := heap_setCell_same _ _ _ _ _ _ hN.out
  have hL1 : (V.setCell ⟨N, 1, none⟩ (.iface t (.pointer (some ⟨p, 0, none⟩)))).heap[w.heap.size]? = some (.cells #[.iface t (.pointer (some ⟨p, 0, none⟩)), .int .i64 (o : Int), .int .i64 (s : Int)] 113 (0, 0)) := by
    rw [heap_setCell_other _ _ _ _ (by show w.heap.size ≠ N; omega)]; exact hL.out
  have hL2 := head_set2 (head_set0 hL1 (.iface 122 (.pointer (some ⟨N, 0, none⟩)))) (.int .i64 ((s : Int) + 1))
  have hN2 : (((V.setCell ⟨N, 1, none⟩ (.iface t (.pointer (some ⟨p, 0, none⟩)))).setCell ⟨w.heap.size, 0, none⟩ (.iface 122 (.pointer (some ⟨N, 0, none⟩)))).setCell ⟨w.heap.size, 2, none⟩ (.int .i64 ((s : Int) + 1))).drew.heap[N]? = some (.cells ((zbranch (d + 1)).toArray.setIfInBounds (1 + 0) (.iface t (.pointer (some ⟨p, 0, none⟩)))) 125 (0, 0)) := by
    rw [heap_drew, heap_setCell_other _ _ _ _ (by show N ≠ w.heap.size; omega), heap_setCell_other _ _ _ _ (by show N ≠ w.heap.size; omega)]; exact hN1
  have hB3 := Lib.hid ((((hB2.out.setCell (p := ⟨N, 1, none⟩) (by show w.heap.size ≤ N; omega) (.iface t (.pointer (some ⟨p, 0, none⟩)))).setCell (p := ⟨w.heap.size, 0, none⟩) (Nat.le_refl _) (.iface 122 (.pointer (some ⟨N, 0, none⟩)))).setCell (p := ⟨w.heap.size, 2, none⟩) (Nat.le_refl _) (.int .i64 ((s : Int) + 1))).drew)
  generalize hU : (((V.setCell ⟨N, 1, none⟩ (.iface t (.pointer (some ⟨p, 0, none⟩)))).setCell ⟨w.heap.size, 0, none⟩ (.iface 122 (.pointer (some ⟨N, 0, none⟩)))).setCell ⟨w.heap.size, 2, none⟩ (.int .i64 ((s : Int) + 1))).drew = U at hL2 hN2 hB3 ⊢
  have HNode : Hid (Node Any U (d + 1) (.iface 122 (.pointer (some ⟨N, 0, none⟩))) g) := HG.out U N (by rw [HT.out] at hN2; exact hN2) (Node.stay (Stay.of_below hB3.out) _ _ _ HN0.out)
  have hZ2 := Lib.hid hL2
  clear hU hN1 hL1 hL2 hN2 hL hN hB2 hd0 hd1 hd2 hf0 hf2 hn1 hnf V HN0 HG HT
  obtain ⟨hd0, hd1, hd2⟩ := head_cells hZ2.out
  have hw1 : IntKind.i64.wrap ((o : Int) + ((s : Int) + 1)) = (o : Int) + ((s : Int) + 1) := by rw [IntKind.wrap_i64]; omega
  have hw2 : IntKind.i64.wrap ((o : Int) + ((s : Int) + 1) - 1) = (o : Int) + s := by rw [IntKind.wrap_i64]; omega
  have H5 : Hid (Calls Try.prog fid #[.pointer (some ⟨N, 0, none⟩), .int .i64 ((o : Int) + s), .int .i64 x, .bool false] U.drew (SetPost Any U.drew (d + 1) g k x)) := H4.out _ N (Node.stay (w := U) (w' := U.drew) (fun _ _ _ h _ => h) _ _ _ HNode.out)
  refine region_fix [0] [1, 2, 3, 4, 5, 6, 7, 8, 9, 10, 11, 12, 13, 14, 15, 16, 17, 18] [19, 20, 21, 22] (by kernel_rfl) (by intro dst v c a w h; cases dst <;> exact h) (by kernel_rfl) ?_
  simp only [opsOf, List.getElem?_toArray, List.getElem?_cons_succ, List.getElem?_cons_zero]
  refine wpPure_step ?_ rfl (fun W => ?_) ?_; rotate_left 1; · go_simp; try with_reducible rfl
  refine wpPure_nil ?_
  repeat still_step
  refine wpStill_nil ?_
  go_wp2_with fail
  refine H5.out.mono ?_
  rintro e w' ⟨v', rfl, hn, hb⟩
  obtain ⟨q, rfl⟩ := hn.ptr
  have hz' := after_cell hZ2 hb
  have hc' := cell_at (j := 0) hz' rfl
  have hf' := head_free hz' 0
  have HN := Lib.hid (And.intro hn hb)
  have HZ' := Lib.hid hz'
  clear hn hb hz'
  go_wp2
  go_ret
  exact head_end rfl rfl (Nat.le_refl _) hB3.out HZ'.out HN.out.1 HN.out.2

end Go.Proofs.Ytnahipfdnadccaa
