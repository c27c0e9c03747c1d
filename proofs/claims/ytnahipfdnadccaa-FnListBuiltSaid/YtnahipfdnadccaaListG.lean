/- The walks over a list: Append (as a copy).

The walks over a list: Append where the tree grows.

The walks over a list: Prepend (as a copy).

The walks over a list: Prepend where the tree grows.

Append and Prepend of a list, in words of lists; the plain arithmetic of a slice's contraction. -/
import Derived.Test.YtnahipfdnadccaaListB
import Derived.Test.YtnahipfdnadccaaTree
namespace Go.Proofs.Ytnahipfdnadccaa
open Go.RowKit

theorem head_set2 {W : World} {L : Nat} {r o s : Value} (h : W.heap[L]? = some (.cells #[r, o, s] 113 (0, 0))) (v : Value) : (W.setCell ⟨L, 2, none⟩ v).drew.heap[L]? = some (.cells #[r, o, v] 113 (0, 0)) := by
  rw [heap_drew]
  have := heap_setCell_same W L 2 _ 113 v h
  simpa using this
theorem head_set1 {W : World} {L : Nat} {r o s : Value} (h : W.heap[L]? = some (.cells #[r, o, s] 113 (0, 0))) (v : Value) : (W.setCell ⟨L, 1, none⟩ v).heap[L]? = some (.cells #[r, v, s] 113 (0, 0)) := by
  have := heap_setCell_same W L 1 _ 113 v h
  simpa using this
theorem head_set0 {W : World} {L : Nat} {r o s : Value} (h : W.heap[L]? = some (.cells #[r, o, s] 113 (0, 0))) (v : Value) : (W.setCell ⟨L, 0, none⟩ v).heap[L]? = some (.cells #[v, o, s] 113 (0, 0)) := by
  have := heap_setCell_same W L 0 _ 113 v h
  simpa using this

set_option maxRecDepth 100000 in
set_option maxHeartbeats 1600000 in
theorem append_room_w (b d p fid t k o s c : Nat) (f : Nat → Option Int) (x : Int) (w : World) (ho : o + s ≤ 1152921504606846976) (hlt : s + o < c) (ht : t = ty d)
    (hblk : w.heap[b]? = some (.cells #[.iface t (.pointer (some ⟨p, 0, none⟩)), .int .i64 (o : Int), .int .i64 (s : Int)] 113 (0, 0)))
    (hcap : ∀ w', Below w.heap.size w w' → Calls Try.prog 71 #[.pointer (some ⟨b, 0, none⟩)] w' fun e w'' => e = .returned (.int .i64 (c : Int)) ∧ w'' = w')
    (h0 : Disp t fid "pub-frond/pub/immutable.set") (h4 : ∀ w', Below w.heap.size w w' → Calls Try.prog fid #[.pointer (some ⟨p, 0, none⟩), .int .i64 ((o : Int) + s), .int .i64 x, .bool false] w' (SetPost Any w' d f k x)) :
    Calls Try.prog 66 #[.pointer (some ⟨b, 0, none⟩), .int .i64 x, .bool false] w (HeadPost w d o ((s : Int) + 1) (upd f k x)) := by
  obtain ⟨h1, h2, h3⟩ := h0
  have H4 := Lib.hid h4; clear h4
  have HC := Lib.hid hcap; clear hcap
  have HT := Lib.hid ht; clear ht
  go_enter Try.func66, Try.ntmps66
  go_wp2_with (go_at_call 70; refine (clone_w b t p o s _ hblk).mono ?_; rintro e w' ⟨rfl, rfl⟩)
  have hZ : Hid ((w.alloc (Obj.cells #[.iface t (.pointer (some ⟨p, 0, none⟩)), .int .i64 (o : Int), .int .i64 (s : Int)] 113)).heap[w.heap.size]? = some (.cells #[.iface t (.pointer (some ⟨p, 0, none⟩)), .int .i64 (o : Int), .int .i64 (s : Int)] 113 (0, 0))) := heap_alloc_last w _
  have hB : Hid (Below w.heap.size w (w.alloc (Obj.cells #[.iface t (.pointer (some ⟨p, 0, none⟩)), .int .i64 (o : Int), .int .i64 (s : Int)] 113))) := (Below.refl _ _).alloc (Nat.le_refl _) _
  generalize hW : w.alloc (Obj.cells #[.iface t (.pointer (some ⟨p, 0, none⟩)), .int .i64 (o : Int), .int .i64 (s : Int)] 113) = W at hZ hB ⊢
  clear hW hblk
  obtain ⟨hd0, hd1, hd2⟩ := head_cells hZ.out
  have hf2 := head_free hZ.out 2
  have hw1 : IntKind.i64.wrap ((s : Int) + o) = (s : Int) + o := by rw [IntKind.wrap_i64]; omega
  have hge : decide ((c : Int) ≤ (s : Int) + o) = false := by simp; omega
  refine region_still (by kernel_rfl) (by kernel_rfl) ?_
  repeat still_step
  still_call (HC.out _ hB.out.drew)
  repeat still_step
  refine wpStill_nil ?_
  go_wp2
  have hZ2 := Lib.hid (head_set2 hZ.out (.int .i64 ((s : Int) + 1)))
  have hB2 := Lib.hid ((hB.out.setCell (p := ⟨w.heap.size, 2, none⟩) (Nat.le_refl _) (.int .i64 ((s : Int) + 1))).drew)
  generalize hW2 : (W.setCell ⟨w.heap.size, 2, none⟩ (.int .i64 ((s : Int) + 1))).drew = V at hZ2 hB2 ⊢
  clear hW2 hZ hB hd0 hd1 hd2 hf2 hw1 hge HC W
  obtain ⟨hd0, hd1, hd2⟩ := head_cells hZ2.out
  have hw1 : IntKind.i64.wrap ((o : Int) + ((s : Int) + 1)) = (o : Int) + ((s : Int) + 1) := by rw [IntKind.wrap_i64]; omega
  have hw2 : IntKind.i64.wrap ((o : Int) + ((s : Int) + 1) - 1) = (o : Int) + s := by rw [IntKind.wrap_i64]; omega
  refine region_fix [0] [1, 2, 3, 4, 5, 6, 7, 8, 9, 10, 11, 12, 13, 14, 15, 16, 17, 18] [19, 20, 21, 22] (by kernel_rfl) (by intro dst v c a w h; cases dst <;> exact h) (by kernel_rfl) ?_
  simp only [opsOf, List.getElem?_toArray, List.getElem?_cons_succ, List.getElem?_cons_zero]
  iterate 1 (refine wpPure_step ?_ rfl (fun W => ?_) ?_; rotate_left 1; · go_simp; try with_reducible rfl)
  refine wpPure_nil ?_
  repeat still_step
  refine wpStill_nil ?_
  go_wp2_with fail
  refine (H4.out _ hB2.out.drew).mono ?_
  rintro e w' ⟨v', rfl, hn, hb⟩
  obtain ⟨q, rfl⟩ := hn.ptr
  have hz' := after_cell hZ2 hb
  have hc' := cell_at (j := 0) hz' rfl
  have hf' := head_free hz' 0
  have HN := Lib.hid (And.intro hn hb)
  have HZ' := Lib.hid hz'
  clear hn hb hz'
  go_wp2
  go_ret
  exact head_end rfl rfl (Nat.le_refl _) hB2.out HZ'.out HN.out.1 HN.out.2

end Go.Proofs.Ytnahipfdnadccaa

namespace Go.Proofs.Ytnahipfdnadccaa
open Go.RowKit

/-- a new root over a node: child number m, the others none -/
theorem new_root {_W V : World} {N d m q : Nat} {f g : Nat → Option Int} (hN : V.heap[N]? = some (.cells (((zbranch (d + 1)).toArray).setIfInBounds (1 + m) (.iface (ty d) (.pointer (some ⟨q, 0, none⟩)))) 125 (0, 0))) (hm : m < 32)
    (hn : Node Any V d (.iface (ty d) (.pointer (some ⟨q, 0, none⟩))) f) (h1 : ∀ j y, j < 32 ^ (d + 1) → g (m * 32 ^ (d + 1) + j) = some y → f j = some y) (h2 : ∀ k j, k < 32 → k ≠ m → j < 32 ^ (d + 1) → g (k * 32 ^ (d + 1) + j) = none) :
    Node Any V (d + 1) (.iface 122 (.pointer (some ⟨N, 0, none⟩))) g := by
  refine ⟨N, _, rfl, hN, by rw [Array.size_setIfInBounds]; exact zbranch_len (d + 1), ?_, fun k hk => ?_, trivial⟩
  · rw [Array.getElem?_setIfInBounds_ne (by omega)]; rfl
  · by_cases e : k = m
    · subst e
      exact ⟨_, by rw [Array.getElem?_setIfInBounds_self_of_lt (by rw [List.size_toArray, zbranch_len]; omega)], .inr (Node.mono _ _ _ _ hn fun j y hj hy => h1 j y hj hy)⟩
    · exact ⟨_, by rw [Array.getElem?_setIfInBounds_ne (by omega)]; rw [List.getElem?_toArray]; exact zbranch_get (d + 1) k hk, .inl ⟨rfl, fun j hj => h2 k j hk e hj⟩⟩

set_option maxRecDepth 100000 in
set_option maxHeartbeats 1600000 in
theorem append_grow_w (b d p fid fid' t k o s c : Nat) (f g : Nat → Option Int) (x : Int) (w : World) (hdd : d < 12) (ho : o + s ≤ 1152921504606846976) (hle : c ≤ s + o) (ht : t = ty d)
    (hblk : w.heap[b]? = some (.cells #[.iface t (.pointer (some ⟨p, 0, none⟩)), .int .i64 (o : Int), .int .i64 (s : Int)] 113 (0, 0)))
    (hnode : Node Any w d (.iface (ty d) (.pointer (some ⟨p, 0, none⟩))) f)
    (hg : ∀ V N, V.heap[N]? = some (.cells (((zbranch (d + 1)).toArray).setIfInBounds (1 + 0) (.iface (ty d) (.pointer (some ⟨p, 0, none⟩)))) 125 (0, 0)) → Node Any V d (.iface (ty d) (.pointer (some ⟨p, 0, none⟩))) f → Node Any V (d + 1) (.iface 122 (.pointer (some ⟨N, 0, none⟩))) g)
    (hcap : ∀ w', Below w.heap.size w w' → Calls Try.prog 71 #[.pointer (some ⟨b, 0, none⟩)] w' fun e w'' => e = .returned (.int .i64 (c : Int)) ∧ w'' = w')
    (h0' : Disp t fid' "pub-frond/pub/immutable.depth") (hdep : ∀ w', Below w.heap.size w w' → Calls Try.prog fid' #[.pointer (some ⟨p, 0, none⟩)] w' fun e w'' => e = .returned (.int .u64 (d : Int)) ∧ w' = w'')
    (h0 : Disp 122 fid "pub-frond/pub/immutable.set") (h4 : ∀ w' q, Node Any w' (d + 1) (.iface 122 (.pointer (some ⟨q, 0, none⟩))) g → Calls Try.prog fid #[.pointer (some ⟨q, 0, none⟩), .int .i64 ((o : Int) + s), .int .i64 x, .bool false] w' (SetPost Any w' (d + 1) g k x)) :
    Calls Try.prog 66 #[.pointer (some ⟨b, 0, none⟩), .int .i64 x, .bool false] w (HeadPost w (d + 1) o ((s : Int) + 1) (upd g k x)) := by
  obtain ⟨h1, h2, h3⟩ := h0
  obtain ⟨h1', h2', h3'⟩ := h0'
  have H4 := Lib.hid h4; clear h4
  have HC := Lib.hid hcap; clear hcap
  have HT := Lib.hid ht; clear ht
  have HD := Lib.hid hdep; clear hdep
  have HG := Lib.hid hg; clear hg
  have HN0 := Lib.hid hnode; clear hnode
  go_enter Try.func66, Try.ntmps66
  go_wp2_with (go_at_call 70; refine (clone_w b t p o s _ hblk).mono ?_; rintro e w' ⟨rfl, rfl⟩)
  have hZ : Hid ((w.alloc (Obj.cells #[.iface t (.pointer (some ⟨p, 0, none⟩)), .int .i64 (o : Int), .int .i64 (s : Int)] 113)).heap[w.heap.size]? = some (.cells #[.iface t (.pointer (some ⟨p, 0, none⟩)), .int .i64 (o : Int), .int .i64 (s : Int)] 113 (0, 0))) := heap_alloc_last w _
  have hB : Hid (Below w.heap.size w (w.alloc (Obj.cells #[.iface t (.pointer (some ⟨p, 0, none⟩)), .int .i64 (o : Int), .int .i64 (s : Int)] 113))) := (Below.refl _ _).alloc (Nat.le_refl _) _
  generalize hW : w.alloc (Obj.cells #[.iface t (.pointer (some ⟨p, 0, none⟩)), .int .i64 (o : Int), .int .i64 (s : Int)] 113) = W at hZ hB ⊢
  clear hW hblk
  obtain ⟨hd0, hd1, hd2⟩ := head_cells hZ.out
  have hw1 : IntKind.i64.wrap ((s : Int) + o) = (s : Int) + o := by rw [IntKind.wrap_i64]; omega
  have hge : decide ((c : Int) ≤ (s : Int) + o) = true := by simp; omega
  refine region_still (by kernel_rfl) (by kernel_rfl) ?_
  repeat still_step
  still_call (HC.out _ hB.out.drew)
  repeat still_step
  refine wpStill_nil ?_
  go_wp2_with fail
  refine (HD.out _ hB.out.drew).mono ?_
  rintro e w' ⟨rfl, rfl⟩
  go_wp2_with fail
  change Code.wp _ _ _ _ (W.alloc (Obj.cells (zbranch (d + 1)).toArray 125)).drew
  have hN : Hid ((W.alloc (Obj.cells (zbranch (d + 1)).toArray 125)).drew.heap[W.heap.size]? = some (.cells (zbranch (d + 1)).toArray 125 (0, 0))) := heap_alloc_last W _
  have hB1 : Below W.heap.size W (W.alloc (Obj.cells (zbranch (d + 1)).toArray 125)).drew := ((Below.refl _ _).alloc (Nat.le_refl _) _).drew
  have hL : Hid ((W.alloc (Obj.cells (zbranch (d + 1)).toArray 125)).drew.heap[w.heap.size]? = some (.cells #[.iface t (.pointer (some ⟨p, 0, none⟩)), .int .i64 (o : Int), .int .i64 (s : Int)] 113 (0, 0))) := (hB1.block _ (lt_of_block hZ.out)).trans hZ.out
  have hlt : w.heap.size < W.heap.size := lt_of_block hZ.out
  have hB2 := Lib.hid (hB.out.trans (hB1.mono (by omega)))
  generalize hV : (W.alloc (Obj.cells (zbranch (d + 1)).toArray 125)).drew = V at hN hL hB2 ⊢
  generalize W.heap.size = N at hN hlt ⊢
  clear hV hB1 hZ hB hd0 hd1 hd2 hw1 hge HC HD W
  obtain ⟨hd0, hd1, hd2⟩ := head_cells hL.out
  have hf0 := head_free hL.out 0
  have hf2 := head_free hL.out 2
  have hne1 : ¬ w.heap.size = N := by omega
  have hne2 : ¬ N = w.heap.size := by omega
  have hn1 : V.cell? ⟨N, 1, none⟩ = some .nilIface := cell_at hN.out rfl
  have hnf : V.frozen? ⟨N, 1, none⟩ = false := frozen_of_row _ _ _ _ _ hN.out
  refine region_tail 8 (by kernel_rfl) (by kernel_rfl) ?_
  simp only [List.take_succ_cons, List.take_zero, List.drop_succ_cons, List.drop_zero]
  repeat still_step
  refine wpStill_nil ?_
  go_wp2_with fail
  have hN1 : (V.setCell ⟨N, 1, none⟩ (.iface t (.pointer (some ⟨p, 0, none⟩)))).heap[N]? = some (.cells ((zbranch (d + 1)).toArray.setIfInBounds (1 + 0) (.iface t (.pointer (some ⟨p, 0, none⟩)))) 125 (0, 0)) := heap_setCell_same _ _ _ _ _ _ hN.out
  have hL1 : (V.setCell ⟨N, 1, none⟩ (.iface t (.pointer (some ⟨p, 0, none⟩)))).heap[w.heap.size]? = some (.cells #[.iface t (.pointer (some ⟨p, 0, none⟩)), .int .i64 (o : Int), .int .i64 (s : Int)] 113 (0, 0)) := by
    rw [heap_setCell_other _ _ _ _ (by show w.heap.size ≠ N; omega)]; exact hL.out
  have hL2 := head_set2 (head_set0 hL1 (.iface 122 (.pointer (some ⟨N, 0, none⟩)))) (.int .i64 ((s : Int) + 1))
  have hN2 : (((V.setCell ⟨N, 1, none⟩ (.iface t (.pointer (some ⟨p, 0, none⟩)))).setCell ⟨w.heap.size, 0, none⟩ (.iface 122 (.pointer (some ⟨N, 0, none⟩)))).setCell ⟨w.heap.size, 2, none⟩ (.int .i64 ((s : Int) + 1))).drew.heap[N]? = some (.cells ((zbranch (d + 1)).toArray.setIfInBounds (1 + 0) (.iface t (.pointer (some ⟨p, 0, none⟩)))) 125 (0, 0)) := by
    rw [heap_drew, heap_setCell_other _ _ _ _ (by show N ≠ w.heap.size; omega), heap_setCell_other _ _ _ _ (by show N ≠ w.heap.size; omega)]; exact hN1
  have hB3 := Lib.hid ((((hB2.out.setCell (p := ⟨N, 1, none⟩) (by show w.heap.size ≤ N; omega) (.iface t (.pointer (some ⟨p, 0, none⟩)))).setCell (p := ⟨w.heap.size, 0, none⟩) (Nat.le_refl _) (.iface 122 (.pointer (some ⟨N, 0, none⟩)))).setCell (p := ⟨w.heap.size, 2, none⟩) (Nat.le_refl _) (.int .i64 ((s : Int) + 1))).drew)
  generalize hU : (((V.setCell ⟨N, 1, none⟩ (.iface t (.pointer (some ⟨p, 0, none⟩)))).setCell ⟨w.heap.size, 0, none⟩ (.iface 122 (.pointer (some ⟨N, 0, none⟩)))).setCell ⟨w.heap.size, 2, none⟩ (.int .i64 ((s : Int) + 1))).drew = U at hL2 hN2 hB3 ⊢
  have HNode : Hid (Node Any U (d + 1) (.iface 122 (.pointer (some ⟨N, 0, none⟩))) g) := HG.out U N (by rw [HT.out] at hN2; exact hN2) (Node.stay (Stay.of_below hB3.out) _ _ _ HN0.out)
  have hZ2 := Lib.hid hL2
  clear hU hN1 hL1 hL2 hN2 hL hN hB2 hd0 hd1 hd2 hf0 hf2 hn1 hnf V HN0 HG HT
  obtain ⟨hd0, hd1, hd2⟩ := head_cells hZ2.out
  have hw1 : IntKind.i64.wrap ((o : Int) + ((s : Int) + 1)) = (o : Int) + ((s : Int) + 1) := by rw [IntKind.wrap_i64]; omega
  have hw2 : IntKind.i64.wrap ((o : Int) + ((s : Int) + 1) - 1) = (o : Int) + s := by rw [IntKind.wrap_i64]; omega
  have H5 : Hid (Calls Try.prog fid #[.pointer (some ⟨N, 0, none⟩), .int .i64 ((o : Int) + s), .int .i64 x, .bool false] U.drew (SetPost Any U.drew (d + 1) g k x)) := H4.out _ N (Node.stay (w := U) (w' := U.drew) (fun _ _ _ h _ => h) _ _ _ HNode.out)
  refine region_fix [0] [1, 2, 3, 4, 5, 6, 7, 8, 9, 10, 11, 12, 13, 14, 15, 16, 17, 18] [19, 20, 21, 22] (by kernel_rfl) (by intro dst v c a w h; cases dst <;> exact h) (by kernel_rfl) ?_
  simp only [opsOf, List.getElem?_toArray, List.getElem?_cons_succ, List.getElem?_cons_zero]
  refine wpPure_step ?_ rfl (fun W => ?_) ?_; rotate_left 1; · go_simp; try with_reducible rfl
  refine wpPure_nil ?_
  repeat still_step
  refine wpStill_nil ?_
  go_wp2_with fail
  refine H5.out.mono ?_
  rintro e w' ⟨v', rfl, hn, hb⟩
  obtain ⟨q, rfl⟩ := hn.ptr
  have hz' := after_cell hZ2 hb
  have hc' := cell_at (j := 0) hz' rfl
  have hf' := head_free hz' 0
  have HN := Lib.hid (And.intro hn hb)
  have HZ' := Lib.hid hz'
  clear hn hb hz'
  go_wp2
  go_ret
  exact head_end rfl rfl (Nat.le_refl _) hB3.out HZ'.out HN.out.1 HN.out.2

end Go.Proofs.Ytnahipfdnadccaa

namespace Go.Proofs.Ytnahipfdnadccaa
open Go.RowKit

theorem head_set2' {W : World} {L : Nat} {r o s : Value} (h : W.heap[L]? = some (.cells #[r, o, s] 113 (0, 0))) (v : Value) : (W.setCell ⟨L, 2, none⟩ v).heap[L]? = some (.cells #[r, o, v] 113 (0, 0)) := by
  have := heap_setCell_same W L 2 _ 113 v h
  simpa using this

set_option maxRecDepth 100000 in
set_option maxHeartbeats 1600000 in
theorem prepend_room_w (b d p fid t k o s : Nat) (f : Nat → Option Int) (x : Int) (w : World) (ho : o + s ≤ 1152921504606846976) (hlt : 0 < o) (ht : t = ty d)
    (hblk : w.heap[b]? = some (.cells #[.iface t (.pointer (some ⟨p, 0, none⟩)), .int .i64 (o : Int), .int .i64 (s : Int)] 113 (0, 0)))
    (h0 : Disp t fid "pub-frond/pub/immutable.set") (h4 : ∀ w', Below w.heap.size w w' → Calls Try.prog fid #[.pointer (some ⟨p, 0, none⟩), .int .i64 ((o : Int) - 1), .int .i64 x, .bool false] w' (SetPost Any w' d f k x)) :
    Calls Try.prog 67 #[.pointer (some ⟨b, 0, none⟩), .int .i64 x, .bool false] w (HeadPost w d ((o : Int) - 1) ((s : Int) + 1) (upd f k x)) := by
  obtain ⟨h1, h2, h3⟩ := h0
  have H4 := Lib.hid h4; clear h4
  have HT := Lib.hid ht; clear ht
  have hne : ((o : Int) == 0) = false := by simp; omega
  go_enter Try.func67, Try.ntmps67
  go_wp2_with (go_at_call 70; refine (clone_w b t p o s _ hblk).mono ?_; rintro e w' ⟨rfl, rfl⟩)
  have hZ2 : Hid ((w.alloc (Obj.cells #[.iface t (.pointer (some ⟨p, 0, none⟩)), .int .i64 ((o : Int) - 1), .int .i64 ((s : Int) + 1)] 113)).heap[w.heap.size]? = some (.cells #[.iface t (.pointer (some ⟨p, 0, none⟩)), .int .i64 ((o : Int) - 1), .int .i64 ((s : Int) + 1)] 113 (0, 0))) := heap_alloc_last w _
  have hB2 : Hid (Below w.heap.size w (w.alloc (Obj.cells #[.iface t (.pointer (some ⟨p, 0, none⟩)), .int .i64 ((o : Int) - 1), .int .i64 ((s : Int) + 1)] 113))) := (Below.refl _ _).alloc (Nat.le_refl _) _
  generalize hW : w.alloc (Obj.cells #[.iface t (.pointer (some ⟨p, 0, none⟩)), .int .i64 ((o : Int) - 1), .int .i64 ((s : Int) + 1)] 113) = V at hZ2 hB2 ⊢
  clear hW hblk
  obtain ⟨hd0, hd1, hd2⟩ := head_cells hZ2.out
  refine region_fix [0] [1, 2, 3, 4, 5, 6, 7, 8, 9, 10, 11, 12] [13, 14, 15, 16] (by kernel_rfl) (by intro dst v c a w h; cases dst <;> exact h) (by kernel_rfl) ?_
  simp only [opsOf, List.getElem?_toArray, List.getElem?_cons_succ, List.getElem?_cons_zero]
  iterate 1 (refine wpPure_step ?_ rfl (fun W => ?_) ?_; rotate_left 1; · go_simp; try with_reducible rfl)
  refine wpPure_nil ?_
  repeat still_step
  refine wpStill_nil ?_
  go_wp2_with fail
  refine (H4.out _ hB2.out.drew).mono ?_
  rintro e w' ⟨v', rfl, hn, hb⟩
  obtain ⟨q, rfl⟩ := hn.ptr
  have hz' := after_cell hZ2 hb
  have hc' := cell_at (j := 0) hz' rfl
  have hf' := head_free hz' 0
  have HN := Lib.hid (And.intro hn hb)
  have HZ' := Lib.hid hz'
  clear hn hb hz'
  go_wp2
  go_ret
  exact head_end rfl rfl (Nat.le_refl _) hB2.out HZ'.out HN.out.1 HN.out.2

end Go.Proofs.Ytnahipfdnadccaa

namespace Go.Proofs.Ytnahipfdnadccaa
open Go.RowKit

theorem Node.drewn {S : Nat → Prop} {w : World} {d : Nat} {v : Value} {f : Nat → Option Int} (h : Node S w d v f) : Node S w.drew d v f :=
  Node.stay (w := w) (w' := w.drew) (fun _ _ _ h _ => h) _ _ _ h

set_option maxRecDepth 100000 in
set_option maxHeartbeats 1600000 in
theorem prepend_grow_w (b d p fid fid' t k s c : Nat) (f g : Nat → Option Int) (x : Int) (w : World) (hdd : d < 8) (hc : c = 31 * 32 ^ (d + 1)) (hs : s ≤ 1152921504606846976) (ht : t = ty d)
    (hblk : w.heap[b]? = some (.cells #[.iface t (.pointer (some ⟨p, 0, none⟩)), .int .i64 0, .int .i64 (s : Int)] 113 (0, 0)))
    (hnode : Node Any w d (.iface (ty d) (.pointer (some ⟨p, 0, none⟩))) f)
    (hg : ∀ V N, V.heap[N]? = some (.cells (((zbranch (d + 1)).toArray).setIfInBounds (1 + 31) (.iface (ty d) (.pointer (some ⟨p, 0, none⟩)))) 125 (0, 0)) → Node Any V d (.iface (ty d) (.pointer (some ⟨p, 0, none⟩))) f → Node Any V (d + 1) (.iface 122 (.pointer (some ⟨N, 0, none⟩))) g)
    (h0' : Disp t fid' "pub-frond/pub/immutable.depth") (hdep : ∀ w', Below w.heap.size w w' → Calls Try.prog fid' #[.pointer (some ⟨p, 0, none⟩)] w' fun e w'' => e = .returned (.int .u64 (d : Int)) ∧ w' = w'')
    (h0 : Disp 122 fid "pub-frond/pub/immutable.set") (h4 : ∀ w' q, Node Any w' (d + 1) (.iface 122 (.pointer (some ⟨q, 0, none⟩))) g → Calls Try.prog fid #[.pointer (some ⟨q, 0, none⟩), .int .i64 ((c : Int) - 1), .int .i64 x, .bool false] w' (SetPost Any w' (d + 1) g k x)) :
    Calls Try.prog 67 #[.pointer (some ⟨b, 0, none⟩), .int .i64 x, .bool false] w (HeadPost w (d + 1) ((c : Int) - 1) ((s : Int) + 1) (upd g k x)) := by
  obtain ⟨h1, h2, h3⟩ := h0
  obtain ⟨h1', h2', h3'⟩ := h0'
  obtain ⟨h1'', h2'', h3''⟩ := disp_depth1
  have H4 := Lib.hid h4; clear h4
  have HT := Lib.hid ht; clear ht
  have HD := Lib.hid hdep; clear hdep
  have HG := Lib.hid hg; clear hg
  have HN0 := Lib.hid hnode; clear hnode
  have HC := Lib.hid hc; clear hc
  go_enter Try.func67, Try.ntmps67
  go_wp2_with (go_at_call 70; refine (clone_w b t p 0 s _ hblk).mono ?_; rintro e w' ⟨rfl, rfl⟩)
  have hZ : Hid ((w.alloc (Obj.cells #[.iface t (.pointer (some ⟨p, 0, none⟩)), .int .i64 0, .int .i64 (s : Int)] 113)).heap[w.heap.size]? = some (.cells #[.iface t (.pointer (some ⟨p, 0, none⟩)), .int .i64 0, .int .i64 (s : Int)] 113 (0, 0))) := heap_alloc_last w _
  have hB : Hid (Below w.heap.size w (w.alloc (Obj.cells #[.iface t (.pointer (some ⟨p, 0, none⟩)), .int .i64 0, .int .i64 (s : Int)] 113))) := (Below.refl _ _).alloc (Nat.le_refl _) _
  generalize hW : w.alloc (Obj.cells #[.iface t (.pointer (some ⟨p, 0, none⟩)), .int .i64 0, .int .i64 (s : Int)] 113) = W at hZ hB ⊢
  clear hW hblk
  refine (HD.out _ hB.out).mono ?_
  rintro e w' ⟨rfl, rfl⟩
  go_wp2_with fail
  change Code.wp _ _ _ _ (W.alloc (Obj.cells (zbranch (d + 1)).toArray 125))
  have hN : Hid ((W.alloc (Obj.cells (zbranch (d + 1)).toArray 125)).heap[W.heap.size]? = some (.cells (zbranch (d + 1)).toArray 125 (0, 0))) := heap_alloc_last W _
  have hB1 : Below W.heap.size W (W.alloc (Obj.cells (zbranch (d + 1)).toArray 125)) := ((Below.refl _ _).alloc (Nat.le_refl _) _)
  have hL : Hid ((W.alloc (Obj.cells (zbranch (d + 1)).toArray 125)).heap[w.heap.size]? = some (.cells #[.iface t (.pointer (some ⟨p, 0, none⟩)), .int .i64 0, .int .i64 (s : Int)] 113 (0, 0))) := (hB1.block _ (lt_of_block hZ.out)).trans hZ.out
  have hlt : w.heap.size < W.heap.size := lt_of_block hZ.out
  have hB2 := Lib.hid (hB.out.trans (hB1.mono (by omega)))
  generalize hV : W.alloc (Obj.cells (zbranch (d + 1)).toArray 125) = V at hN hL hB2 ⊢
  generalize W.heap.size = N at hN hlt ⊢
  clear hV hB1 hZ hB HD W
  obtain ⟨hd0, hd1, hd2⟩ := head_cells hL.out
  have hf0 := head_free hL.out 0
  have hne1 : ¬ w.heap.size = N := by omega
  have hne2 : ¬ N = w.heap.size := by omega
  have hn1 : V.cell? ⟨N, 32, none⟩ = some .nilIface := cell_at hN.out rfl
  have hnf : V.frozen? ⟨N, 32, none⟩ = false := frozen_of_row _ _ _ _ _ hN.out
  refine region_tail 8 (by kernel_rfl) (by kernel_rfl) ?_
  simp only [List.take_succ_cons, List.take_zero, List.drop_succ_cons, List.drop_zero]
  repeat still_step
  refine wpStill_nil ?_
  go_wp2_with fail
  have hN1 : (V.setCell ⟨N, 32, none⟩ (.iface t (.pointer (some ⟨p, 0, none⟩)))).heap[N]? = some (.cells ((zbranch (d + 1)).toArray.setIfInBounds (1 + 31) (.iface t (.pointer (some ⟨p, 0, none⟩)))) 125 (0, 0)) := heap_setCell_same _ _ _ _ _ _ hN.out
  have hL1 : (V.setCell ⟨N, 32, none⟩ (.iface t (.pointer (some ⟨p, 0, none⟩)))).heap[w.heap.size]? = some (.cells #[.iface t (.pointer (some ⟨p, 0, none⟩)), .int .i64 0, .int .i64 (s : Int)] 113 (0, 0)) := by
    rw [heap_setCell_other _ _ _ _ (by show w.heap.size ≠ N; omega)]; exact hL.out
  have hL2 : ((V.setCell ⟨N, 32, none⟩ (.iface t (.pointer (some ⟨p, 0, none⟩)))).setCell ⟨w.heap.size, 0, none⟩ (.iface 122 (.pointer (some ⟨N, 0, none⟩)))).drew.heap[w.heap.size]? = some (.cells #[.iface 122 (.pointer (some ⟨N, 0, none⟩)), .int .i64 0, .int .i64 (s : Int)] 113 (0, 0)) := head_set0 hL1 _
  have hN2 : ((V.setCell ⟨N, 32, none⟩ (.iface t (.pointer (some ⟨p, 0, none⟩)))).setCell ⟨w.heap.size, 0, none⟩ (.iface 122 (.pointer (some ⟨N, 0, none⟩)))).drew.heap[N]? = some (.cells ((zbranch (d + 1)).toArray.setIfInBounds (1 + 31) (.iface t (.pointer (some ⟨p, 0, none⟩)))) 125 (0, 0)) := by
    rw [heap_drew, heap_setCell_other _ _ _ _ (by show N ≠ w.heap.size; omega)]; exact hN1
  have hB3 := Lib.hid (((hB2.out.setCell (p := ⟨N, 32, none⟩) (by show w.heap.size ≤ N; omega) (.iface t (.pointer (some ⟨p, 0, none⟩)))).setCell (p := ⟨w.heap.size, 0, none⟩) (Nat.le_refl _) (.iface 122 (.pointer (some ⟨N, 0, none⟩)))).drew)
  generalize hU : ((V.setCell ⟨N, 32, none⟩ (.iface t (.pointer (some ⟨p, 0, none⟩)))).setCell ⟨w.heap.size, 0, none⟩ (.iface 122 (.pointer (some ⟨N, 0, none⟩)))).drew = U at hL2 hN2 hB3 ⊢
  have HNode : Hid (Node Any U (d + 1) (.iface 122 (.pointer (some ⟨N, 0, none⟩))) g) := HG.out U N (by rw [HT.out] at hN2; exact hN2) (Node.stay (Stay.of_below hB3.out) _ _ _ HN0.out)
  have hZ2 := Lib.hid hL2
  have hdn : Hid (U.cell? ⟨N, 0, none⟩ = some (.int .u64 ((d : Int) + 1))) := cell_at hN2 (by rw [Array.getElem?_setIfInBounds_ne (by omega)]; rfl)
  clear hU hN1 hL1 hL2 hN2 hL hN hB2 hd0 hd1 hd2 hf0 hn1 hnf V HN0 HG HT
  obtain ⟨hd0, hd1, hd2⟩ := head_cells hZ2.out
  have hf1 := head_free hZ2.out 1
  have hf2 := head_free hZ2.out 2
  have hw0 : IntKind.u64.wrap (((d : Int) + 1) * 5) = ((d : Int) + 1) * 5 := by rw [IntKind.wrap_u64]; omega
  have hw0a : 0 ≤ ((d : Int) + 1) * 5 := by omega
  have hw0b : ((d : Int) + 1) * 5 ≤ 64 := by omega
  have hw0c : (((d : Int) + 1) * 5).toNat = (d + 1) * 5 := by omega
  have hcv : (31 : Int) * 2 ^ ((d + 1) * 5) = (c : Int) := by rw [HC.out, pow25, Int.natCast_mul, cast32]; rfl
  have hcb : (c : Int) ≤ 1152921504606846976 := by
    rw [HC.out]
    have h1 : (32 : Nat) ^ (d + 1) ≤ 32 ^ 8 := Nat.pow_le_pow_right (by decide) (by omega)
    have h2 : (32 : Nat) ^ 8 = 1099511627776 := by decide
    omega
  have hcp : (1 : Int) ≤ (c : Int) := by
    rw [HC.out]
    have := pos32 (d + 1)
    omega
  have hw1 : IntKind.i64.wrap (c : Int) = (c : Int) := by rw [IntKind.wrap_i64]; omega
  have hcall : Hid (Calls Try.prog 101 #[.pointer (some ⟨N, 0, none⟩)] U.drew fun e w'' => e = .returned (.int .u64 ((d : Int) + 1)) ∧ w'' = U.drew) := (depth_w1 N _ U.drew hdn.out).mono fun e w'' h => ⟨h.1, h.2.symm⟩
  refine region_tail 14 (by kernel_rfl) (by kernel_rfl) ?_
  simp only [List.take_succ_cons, List.take_zero, List.drop_succ_cons, List.drop_zero]
  repeat still_step
  still_call (hcall.out)
  repeat still_step
  refine wpStill_nil ?_
  clear hw0 hw0a hw0b hw0c hcv hw1
  go_wp2_with fail
  have hL4 : (((U.setCell ⟨w.heap.size, 1, none⟩ (.int .i64 (c : Int))).setCell ⟨w.heap.size, 2, none⟩ (.int .i64 ((s : Int) + 1))).setCell ⟨w.heap.size, 1, none⟩ (.int .i64 ((c : Int) - 1))).drew.heap[w.heap.size]? = some (.cells #[.iface 122 (.pointer (some ⟨N, 0, none⟩)), .int .i64 ((c : Int) - 1), .int .i64 ((s : Int) + 1)] 113 (0, 0)) := head_set1 (head_set2' (head_set1 hZ2.out _) _) _
  have hB4 := Lib.hid ((((hB3.out.setCell (p := ⟨w.heap.size, 1, none⟩) (Nat.le_refl _) (.int .i64 (c : Int))).setCell (p := ⟨w.heap.size, 2, none⟩) (Nat.le_refl _) (.int .i64 ((s : Int) + 1))).setCell (p := ⟨w.heap.size, 1, none⟩) (Nat.le_refl _) (.int .i64 ((c : Int) - 1))).drew)
  have HNode2 : Hid (Node Any (((U.setCell ⟨w.heap.size, 1, none⟩ (.int .i64 (c : Int))).setCell ⟨w.heap.size, 2, none⟩ (.int .i64 ((s : Int) + 1))).setCell ⟨w.heap.size, 1, none⟩ (.int .i64 ((c : Int) - 1))).drew (d + 1) (.iface 122 (.pointer (some ⟨N, 0, none⟩))) g) :=
    Node.drewn (node_head (head_set2' (head_set1 hZ2.out _) _) (node_head (head_set1 hZ2.out _) (node_head hZ2.out HNode.out)))
  generalize hX : (((U.setCell ⟨w.heap.size, 1, none⟩ (.int .i64 (c : Int))).setCell ⟨w.heap.size, 2, none⟩ (.int .i64 ((s : Int) + 1))).setCell ⟨w.heap.size, 1, none⟩ (.int .i64 ((c : Int) - 1))).drew = X at hL4 hB4 HNode2 ⊢
  have hZ5 := Lib.hid hL4
  clear hX hL4 hZ2 hB3 HNode hd0 hd1 hd2 hf1 hf2 hdn hcall U
  obtain ⟨hd0, hd1, hd2⟩ := head_cells hZ5.out
  have H5 : Hid (Calls Try.prog fid #[.pointer (some ⟨N, 0, none⟩), .int .i64 ((c : Int) - 1), .int .i64 x, .bool false] X.drew (SetPost Any X.drew (d + 1) g k x)) := H4.out _ N (Node.stay (w := X) (w' := X.drew) (fun _ _ _ h _ => h) _ _ _ HNode2.out)
  refine region_fix [0] [1, 2, 3, 4, 5, 6, 7, 8, 9, 10, 11, 12] [13, 14, 15, 16] (by kernel_rfl) (by intro dst v c a w h; cases dst <;> exact h) (by kernel_rfl) ?_
  simp only [opsOf, List.getElem?_toArray, List.getElem?_cons_succ, List.getElem?_cons_zero]
  refine wpPure_step ?_ rfl (fun W => ?_) ?_; rotate_left 1; · go_simp; try with_reducible rfl
  refine wpPure_nil ?_
  repeat still_step
  refine wpStill_nil ?_
  go_wp2_with fail
  refine H5.out.mono ?_
  rintro e w' ⟨v', rfl, hn, hb⟩
  obtain ⟨q, rfl⟩ := hn.ptr
  have hz' := after_cell hZ5 hb
  have hc' := cell_at (j := 0) hz' rfl
  have hf' := head_free hz' 0
  have HN := Lib.hid (And.intro hn hb)
  have HZ' := Lib.hid hz'
  clear hn hb hz'
  go_wp2
  go_ret
  exact head_end rfl rfl (Nat.le_refl _) hB4.out HZ'.out HN.out.1 HN.out.2

end Go.Proofs.Ytnahipfdnadccaa

namespace Go.Proofs.Ytnahipfdnadccaa
open Go.RowKit

theorem dep_append_room {n d o s : Nat} (h : Dep n d o s) (hlt : s + o < 32 ^ d) (_hn : n < 33554431) : Dep (n + 1) d o (s + 1) := by
  obtain ⟨h1, h2, h3, h4⟩ := h
  have e : (32 : Nat) ^ (d + 1) = 32 ^ d * 32 := Nat.pow_succ _ _
  exact ⟨by omega, by omega, h3, fun h6 => by have := h4 h6; omega⟩

theorem dep_append_grow {n d o s : Nat} (h : Dep n d o s) (hle : 32 ^ d ≤ s + o) (hn : n < 33554431) : Dep (n + 1) (d + 1) o (s + 1) := by
  obtain ⟨h1, h2, h3, h4⟩ := h
  have e : (32 : Nat) ^ (d + 1 + 1) = 32 ^ (d + 1) * 32 := Nat.pow_succ _ _
  have hp := pos32 (d + 1)
  refine ⟨by omega, by omega, ?_, fun h6 => ?_⟩
  · by_cases hd : d = 7
    · subst hd
      have := h4 (by omega)
      have e7 : (32 : Nat) ^ 7 = 34359738368 := by decide
      omega
    · omega
  · by_cases hd : d = 5
    · subst hd
      have e5 : (32 : Nat) ^ 5 = 33554432 := by decide
      have e6 : (32 : Nat) ^ (5 + 1) = 1073741824 := by decide
      omega
    · have := h4 (by omega)
      omega

theorem dep_prepend_room {n d o s : Nat} (h : Dep n d o s) (ho : 0 < o) : Dep (n + 1) d (o - 1) (s + 1) := by
  obtain ⟨h1, h2, h3, h4⟩ := h
  exact ⟨by omega, by omega, h3, fun h6 => by have := h4 h6; omega⟩

theorem dep_prepend_grow {n d s : Nat} (h : Dep n d 0 s) (hn : n < 33554431) : d ≤ 5 ∧ Dep (n + 1) (d + 1) (31 * 32 ^ (d + 1) - 1) (s + 1) := by
  obtain ⟨h1, h2, h3, h4⟩ := h
  have e : (32 : Nat) ^ (d + 1 + 1) = 32 ^ (d + 1) * 32 := Nat.pow_succ _ _
  have hp := pos32 (d + 1)
  have hd : d ≤ 5 := by
    rcases Nat.lt_or_ge 5 d with h | h
    · have := (h4 (by omega)).1; omega
    · exact h
  refine ⟨hd, by omega, by omega, by omega, fun h6 => ?_⟩
  obtain rfl : d = 5 := by omega
  have e6 : (32 : Nat) ^ (5 + 1) = 1073741824 := by decide
  omega

theorem win_append {o : Nat} {xs : List Int} {x : Int} : win o (xs ++ [x]) = upd (win o xs) (o + xs.length) x := by
  funext j
  show (if o ≤ j then (xs ++ [x])[j - o]? else none) = if j = o + xs.length then some x else if o ≤ j then xs[j - o]? else none
  by_cases h : o ≤ j
  · rw [if_pos h, List.getElem?_append]
    by_cases h1 : j - o < xs.length
    · rw [if_pos h1, if_neg (by omega), if_pos h]
    · rw [if_neg h1]
      by_cases h2 : j = o + xs.length
      · rw [if_pos h2, show j - o - xs.length = 0 by omega]; rfl
      · rw [if_neg h2, if_pos h, List.getElem?_eq_none (by simp; omega), List.getElem?_eq_none (by omega)]
  · rw [if_neg h, if_neg (by omega), if_neg h]

theorem win_prepend {o : Nat} {xs : List Int} {x : Int} (ho : 0 < o) : win (o - 1) (x :: xs) = upd (win o xs) (o - 1) x := by
  funext j
  show (if o - 1 ≤ j then (x :: xs)[j - (o - 1)]? else none) = if j = o - 1 then some x else if o ≤ j then xs[j - o]? else none
  by_cases h : j = o - 1
  · subst h; rw [if_pos (Nat.le_refl _), if_pos rfl, Nat.sub_self]; rfl
  · rw [if_neg h]
    by_cases h1 : o ≤ j
    · rw [if_pos (by omega), if_pos h1, show j - (o - 1) = (j - o) + 1 by omega, List.getElem?_cons_succ]
    · rw [if_neg (by omega), if_neg h1]

theorem win_none {o j : Nat} {xs : List Int} (h : o + xs.length ≤ j) : win o xs j = none := by
  unfold win
  split
  · exact List.getElem?_eq_none (by omega)
  · rfl

theorem win_shift {o m : Nat} {xs : List Int} (j : Nat) : win (m + o) xs (m + j) = win o xs j := by
  unfold win
  by_cases h : o ≤ j
  · rw [if_pos (by omega), if_pos h, show m + j - (m + o) = j - o by omega]
  · rw [if_neg (by omega), if_neg h]

theorem append_list {w : World} {v : Value} {n : Nat} {xs : List Int} (x : Int) (h : IsList w v n xs) (hn : n < 33554431) :
    Calls Try.prog 57 #[v, .int .i64 x] w (ListPost w (n + 1) (xs ++ [x])) := by
  obtain ⟨b, d, o, rfl, hat⟩ := h
  have hcap := fun (w' : World) (hb : Below w.heap.size w w') => cap_any (hat.stay (Stay.of_below hb))
  obtain ⟨p, h1, h2, h3⟩ := hat
  have hp := pow_le8 h3.2.2.1
  have hle := h3.2.1
  have hd7 := h3.2.2.1
  have hlocal : ∀ D, d ≤ D → loc ((o : Int) + xs.length) D = o + xs.length ∨ o + xs.length = 32 ^ (d + 1) := fun D hD => by
    rcases Nat.lt_or_ge (o + xs.length) (32 ^ (d + 1)) with h | h
    · left
      have e : ((o : Int) + xs.length) = ((o + xs.length : Nat) : Int) := by omega
      rw [e]
      exact loc_nat _ _ (Nat.lt_of_lt_of_le h (Nat.pow_le_pow_right (by decide) (by omega)))
    · right; omega
  have hpost : ∀ e w', (∃ D g, HeadPost w D o ((xs.length : Int) + 1) g e w' ∧ (∀ j y, win o (xs ++ [x]) j = some y → g j = some y) ∧ Dep (n + 1) D o (xs.length + 1)) → ListPost w (n + 1) (xs ++ [x]) e w' := fun e w' ⟨D, g, h, hg, hD⟩ =>
    h.list (xs := xs ++ [x]) hg (by simp) (by simpa using hD)
  have hret : ∀ (D : Nat) (g : Nat → Option Int) e w', HeadPost w D o ((xs.length : Int) + 1) g e w' → (∃ u, e = .returned u) ∨ ∃ c, e = .panicked c := fun D g e w' ⟨L, q, h, _⟩ => .inl ⟨_, h⟩
  rcases Nat.lt_or_ge (xs.length + o) (32 ^ d) with hlt | hge
  · have hloc : loc ((o : Int) + xs.length) d = o + xs.length := by
      rcases hlocal d (Nat.le_refl _) with h | h
      · exact h
      · have e : (32 : Nat) ^ (d + 1) = 32 ^ d * 32 := Nat.pow_succ _ _
        have := pos32 d
        omega
    refine (Append_w _ _ _ _ (append_room_w b d p (fn 93 103 d) (ty d) (o + xs.length) o xs.length (32 ^ d) (win o xs) x w (by omega) hlt rfl h1 hcap (disp_ty disp_set0 disp_set1 d) fun w' hb => ?_) (hret _ _)).mono fun e w' h => hpost e w' ⟨d, _, h, fun j y hy => ?_, dep_append_room h3 hlt hn⟩
    · have := set_any ((o : Int) + xs.length) x d Any w' p _ (by omega) (Node.stay (Stay.of_below hb) _ _ _ h2)
      rw [hloc] at this
      exact this
    · rw [win_append] at hy; exact hy
  · have hD := dep_append_grow h3 hge hn
    have hd6 : d ≤ 6 := by have := hD.2.2.1; omega
    have hloc : loc ((o : Int) + xs.length) (d + 1) = o + xs.length := by
      have e : ((o : Int) + xs.length) = ((o + xs.length : Nat) : Int) := by omega
      rw [e]
      have e2 : (32 : Nat) ^ (d + 1 + 1) = 32 ^ (d + 1) * 32 := Nat.pow_succ _ _
      have := pos32 (d + 1)
      exact loc_nat _ _ (by omega)
    refine (Append_w _ _ _ _ (append_grow_w b d p 103 (fn 91 101 d) (ty d) (o + xs.length) o xs.length (32 ^ d) (win o xs) (win o xs) x w (by omega) (by omega) hge rfl h1 h2 (fun V N hN hnode => ?_) hcap (disp_ty disp_depth0 disp_depth1 d)
      (fun w' hb => depth_any (Node.stay (Stay.of_below hb) _ _ _ h2)) disp_set1 fun w' q hq => ?_) (hret _ _)).mono fun e w' h => hpost e w' ⟨d + 1, _, h, fun j y hy => ?_, hD⟩
    · refine new_root (_W := V) hN (by omega) hnode (fun j y hj hy => by rw [Nat.zero_mul, Nat.zero_add] at hy; exact hy) fun k j hk hk0 hj => ?_
      apply win_none
      have : 1 * 32 ^ (d + 1) ≤ k * 32 ^ (d + 1) := Nat.mul_le_mul_right _ (by omega)
      omega
    · have := set_any ((o : Int) + xs.length) x (d + 1) Any w' q _ (by omega) hq
      rw [hloc] at this
      exact this
    · rw [win_append] at hy; exact hy

theorem prepend_list {w : World} {v : Value} {n : Nat} {xs : List Int} (x : Int) (h : IsList w v n xs) (hn : n < 33554431) :
    Calls Try.prog 58 #[v, .int .i64 x] w (ListPost w (n + 1) (x :: xs)) := by
  obtain ⟨b, d, o, rfl, p, h1, h2, h3⟩ := h
  have hp := pow_le8 h3.2.2.1
  have hle := h3.2.1
  have hd7 := h3.2.2.1
  have hpost : ∀ (o' : Nat) e w', (∃ D g, HeadPost w D (o' : Int) ((xs.length : Int) + 1) g e w' ∧ (∀ j y, win o' (x :: xs) j = some y → g j = some y) ∧ Dep (n + 1) D o' (xs.length + 1)) → ListPost w (n + 1) (x :: xs) e w' := fun o' e w' ⟨D, g, h, hg, hD⟩ =>
    h.list (xs := x :: xs) hg (by simp) (by simpa using hD)
  have hret : ∀ (o' : Int) (D : Nat) (g : Nat → Option Int) e w', HeadPost w D o' ((xs.length : Int) + 1) g e w' → (∃ u, e = .returned u) ∨ ∃ c, e = .panicked c := fun o' D g e w' ⟨L, q, h, _⟩ => .inl ⟨_, h⟩
  rcases Nat.eq_zero_or_pos o with h0 | h0
  · subst h0
    obtain ⟨hd5, hD⟩ := dep_prepend_grow h3 hn
    have hpos := pos32 (d + 1)
    have e2 : (32 : Nat) ^ (d + 1 + 1) = 32 ^ (d + 1) * 32 := Nat.pow_succ _ _
    have ec : ((31 * 32 ^ (d + 1) : Nat) : Int) - 1 = ((31 * 32 ^ (d + 1) - 1 : Nat) : Int) := by omega
    have hloc : loc (((31 * 32 ^ (d + 1) : Nat) : Int) - 1) (d + 1) = 31 * 32 ^ (d + 1) - 1 := by
      rw [ec]
      exact loc_nat _ _ (by omega)
    refine (Prepend_w _ _ _ _ (prepend_grow_w b d p 103 (fn 91 101 d) (ty d) (31 * 32 ^ (d + 1) - 1) xs.length (31 * 32 ^ (d + 1)) (win 0 xs) (win (31 * 32 ^ (d + 1)) xs) x w (by omega) rfl (by omega) rfl h1 h2 (fun V N hN hnode => ?_) (disp_ty disp_depth0 disp_depth1 d)
      (fun w' hb => depth_any (Node.stay (Stay.of_below hb) _ _ _ h2)) disp_set1 fun w' q hq => ?_) (hret _ _ _)).mono fun e w' h => hpost (31 * 32 ^ (d + 1) - 1) e w' ⟨d + 1, _, by rw [← ec]; exact h, fun j y hy => ?_, hD⟩
    · refine new_root (_W := V) hN (by omega) hnode (fun j y hj hy => ?_) fun k j hk hk0 hj => ?_
      · have := win_shift (o := 0) (m := 31 * 32 ^ (d + 1)) (xs := xs) j
        rw [Nat.add_zero] at this
        rw [← this]; exact hy
      · unfold win
        rw [if_neg]
        have := mul_mono_lt (M := 32 ^ (d + 1)) (r := 0) (show k < 31 by omega) hj
        omega
    · have := set_any (((31 * 32 ^ (d + 1) : Nat) : Int) - 1) x (d + 1) Any w' q _ (by omega) hq
      rw [hloc] at this
      exact this
    · rw [← win_prepend (by omega)]; exact hy
  · have ec : (o : Int) - 1 = ((o - 1 : Nat) : Int) := by omega
    have hloc : loc ((o : Int) - 1) d = o - 1 := by
      rw [ec]
      exact loc_nat _ _ (by omega)
    refine (Prepend_w _ _ _ _ (prepend_room_w b d p (fn 93 103 d) (ty d) (o - 1) o xs.length (win o xs) x w (by omega) h0 rfl h1 (disp_ty disp_set0 disp_set1 d) fun w' hb => ?_) (hret _ _ _)).mono fun e w' h => hpost (o - 1) e w' ⟨d, _, by rw [← ec]; exact h, fun j y hy => ?_, dep_prepend_room h3 h0⟩
    · have := set_any ((o : Int) - 1) x d Any w' p _ (by omega) (Node.stay (Stay.of_below hb) _ _ _ h2)
      rw [hloc] at this
      exact this
    · rw [← win_prepend h0]; exact hy

end Go.Proofs.Ytnahipfdnadccaa
