/- The walks over a list: Prepend (as a copy). -/
import Derived.Test.YtnahipfdnadccaaListD
namespace Go.Proofs.Ytnahipfdnadccaa
open Go.RowKit

theorem head_set2' {W : World} {L : Nat} {r o s : Value} (h : W.heap[L]? = some (.cells #[r, o, s] 113 (0, 0))) (v : Value) : (W.setCell ⟨L, 2, none⟩ v).heap[L]? = some (.cells #[r, o, v] 113 (0, 0)) := by
  have := heap_setCell_same W L 2 _ 113 v h
  simpa using this

set_option maxRecDepth 100000 in
set_option maxHeartbeats 1600000 in
theorem prepend_room_w (b d p fid t k o s : Nat) (f : Nat → Option Int) (x : Int) (w : World) (ho : o + s ≤ 1152921504606846976) (hlt : 0 < o) (ht : t = ty d)
    (hblk : w.heap[b]? = some (.cells #[.iface t (.pointer (some ⟨p, 0, none⟩)), .int .i64 (o : Int), .int .i64 (s : Int)] 113 (0, 0)))
    (h0 : Disp t fid "pub-frond/pub/immutable.set") (h4 : ∀ w', Below w.heap.size w w' → Calls Try.prog fid #[.pointer (some ⟨p, 0, none⟩), .int .i64 ((o : Int) - 1), .int .i64 x, .bool false] w' (SetPost Any w' d f k x)) :
    Calls Try.prog 67 #[.pointer (some ⟨b, 0, none⟩), .int .i64 x, .bool false] w (HeadPost w d ((o : Int) - 1) ((s : Int) + 1) (upd f k x)) := by
  obtain ⟨h1, h2, h3⟩ := h0
  have H4 := Lib.hid h4; clear h4
  have HT := Lib.hid ht; clear ht
  have hne : ((o : Int) == 0) = false := by simp; omega
  go_enter Try.func67, Try.ntmps67
  go_wp2_with (go_at_call 70; refine (clone_w b t p o s _ hblk).mono ?_; rintro e w' ⟨rfl, rfl⟩)
  have hZ2 : Hid ((w.alloc (Obj.cells #[.iface t (.pointer (some ⟨p, 0, none⟩)), .int .i64 ((o : Int) - 1), .int .i64 ((s : Int) + 1)] 113)).heap[w.heap.size]? = some (.cells #[.iface t (.pointer (some ⟨p, 0, none⟩)), .int .i64 ((o : Int) - 1), .int .i64 ((s : Int) + 1)] 113 (0, 0))) := heap_alloc_last w _
  have hB2 : Hid (Below w.heap.size w (w.alloc (Obj.cells #[.iface t (.pointer (some ⟨p, 0, none⟩)), .int .i64 ((o : Int) - 1), .int .i64 ((s : Int) + 1)] 113))) := (Below.refl _ _).alloc (Nat.le_refl _) _
  generalize hW : w.alloc (Obj.cells #[.iface t (.pointer (some ⟨p, 0, none⟩)), .int .i64 ((o : Int) - 1), .int .i64 ((s : Int) + 1)] 113) = V at hZ2 hB2 ⊢
  clear hW hblk
  obtain ⟨hd0, hd1, hd2⟩ := head_cells hZ2.out
  refine region_fix [0] [1, 2, 3, 4, 5, 6, 7, 8, 9, 10, 11, 12] [13, 14, 15, 16] (by kernel_rfl) (by intro dst v c a w h; cases dst <;> exact h) (by kernel_rfl) ?_
  simp only [opsOf, List.getElem?_toArray, List.getElem?_cons_succ, List.getElem?_cons_zero]
  iterate 1 (refine wpPure_step ?_ rfl (fun W => ?_) ?_; rotate_left 1; · go_simp; try with_reducible rfl)
  refine wpPure_nil ?_
  repeat still_step
  refine wpStill_nil ?_
  go_wp2_with fail
  refine (H4.out _ hB2.out.drew).mono ?_
  rintro e w' ⟨v', rfl, hn, hb⟩
  obtain ⟨q, rfl⟩ := hn.ptr
  have hz' := after_cell hZ2 hb
  have hc' := cell_at (j := 0) hz' rfl
  have hf' := head_free hz' 0
  have HN := Lib.hid (And.intro hn hb)
  have HZ' := Lib.hid hz'
  clear hn hb hz'
  go_wp2
  go_ret
  exact head_end rfl rfl (Nat.le_refl _) hB2.out HZ'.out HN.out.1 HN.out.2

end Go.Proofs.Ytnahipfdnadccaa
