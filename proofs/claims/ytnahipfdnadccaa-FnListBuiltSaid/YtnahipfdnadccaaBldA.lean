/- A builder's methods, in place. Conditions of this file: none. -/
import Derived.Test.YtnahipfdnadccaaMutE
namespace Go.Proofs.Ytnahipfdnadccaa
open Go.RowKit

/-- bb is a builder; its list lb has the numbers xs, all of it in blocks of G -/
structure Bld (G : Nat → Prop) (w : World) (bb lb n : Nat) (xs : List Int) : Prop where
  blk : w.heap[bb]? = some (.cells #[.pointer (some ⟨lb, 0, none⟩)] 115 (0, 0))
  lst : SListG G w (.pointer (some ⟨lb, 0, none⟩)) n xs
  out : ¬ G bb
  new : ∀ x, w.heap.size ≤ x → G x
  low : ¬ G 0

section
variable {G : Nat → Prop} {w : World} {bb lb n : Nat} {xs : List Int}
theorem Bld.stay (h : Bld G w bb lb n xs) {w' : World} (hb : But (fun x => ¬ G x ∧ x ≠ bb) w w') (hs : Stay w w') : Bld G w' bb lb n xs :=
  ⟨hb.at h.blk fun e => e.2 rfl, h.lst.stay hs, h.out, fun x hx => h.new x (Nat.le_trans hb.size hx), h.low⟩
theorem dep_mono {n m d o s : Nat} (h : Dep n d o s) (hm : n ≤ m) : Dep m d o s := by
  obtain ⟨h1, h2, h3, h4⟩ := h
  exact ⟨by omega, h2, h3, fun h => by have := h4 h; omega⟩
theorem Bld.mono (h : Bld G w bb lb n xs) {m : Nat} (hm : n ≤ m) : Bld G w bb lb m xs := by
  obtain ⟨b, d, o, p, S, h1, h2, h3, h4, h5, h6⟩ := h.lst
  exact ⟨h.blk, ⟨b, d, o, p, S, h1, h2, h3, h4, h5, dep_mono h6 hm⟩, h.out, h.new, h.low⟩

/-- what a step of a builder leaves -/
theorem bld_end {m : Nat} {ys : List Int} (h : Bld G w bb lb n xs) {w' : World} (hl : SListG G w' (.pointer (some ⟨lb, 0, none⟩)) m ys) (hb : But G w w') :
    Bld G (w'.setCell ⟨bb, 0, none⟩ (.pointer (some ⟨lb, 0, none⟩))) bb lb m ys ∧ But (fun x => G x ∨ x = bb) w (w'.setCell ⟨bb, 0, none⟩ (.pointer (some ⟨lb, 0, none⟩))) := by
  have hblk := hb.at h.blk h.out
  have hs := heap_setCell_same w' bb 0 _ 115 (.pointer (some ⟨lb, 0, none⟩)) hblk
  have hB : But (· = bb) w' (w'.setCell ⟨bb, 0, none⟩ (.pointer (some ⟨lb, 0, none⟩))) := (But.refl (· = bb) w').setCell (p := ⟨bb, 0, none⟩) (.inl rfl) _
  have hst : Stay w' (w'.setCell ⟨bb, 0, none⟩ (.pointer (some ⟨lb, 0, none⟩))) := hB.stay fun b c t _ e h' => by
    have e' : b = bb := e
    subst e'
    rw [hblk] at h'
    simp only [Option.some.injEq, Obj.cells.injEq] at h'
    rw [← h'.2.1]
    decide
  exact ⟨⟨by simpa using hs, hl.stay hst, h.out, fun x hx => h.new x (Nat.le_trans (Nat.le_trans hb.size hB.size) hx), h.low⟩, (hb.wider fun _ _ h => .inl h).trans (hB.wider fun _ _ h => .inr h)⟩
end

set_option maxRecDepth 100000 in
set_option maxHeartbeats 400000 in
theorem assert_w (s : Value) (w : World) : Calls Try.prog 65 #[.bool true, s] w fun e w' => e = .returned (.tuple #[]) ∧ w' = w := by
  go_enter Try.func65, Try.ntmps65
  go_wp2_with fail
  exact bodyPost_end (results_none rfl _ _ _) rfl ⟨rfl, rfl⟩

set_option maxRecDepth 100000 in
set_option maxHeartbeats 800000 in
theorem bld_append_w {G : Nat → Prop} {w : World} {bb lb n : Nat} {xs : List Int} (x : Int) (h : Bld G w bb lb n xs) {m : Nat} {ys : List Int}
    (hc : Calls Try.prog 66 #[.pointer (some ⟨lb, 0, none⟩), .int .i64 x, .bool true] w (SPostG G w (.pointer (some ⟨lb, 0, none⟩)) m ys)) :
    Calls Try.prog 45 #[.pointer (some ⟨bb, 0, none⟩), .int .i64 x] w fun e w' => e = .returned (.tuple #[]) ∧ Bld G w' bb lb m ys ∧ But (fun x => G x ∨ x = bb) w w' := by
  have b0 := cell_at (j := 0) h.blk rfl
  have H := Lib.hid h
  have HC := Lib.hid hc
  clear h hc
  go_enter Try.func45, Try.ntmps45
  go_wp2_with fail
  refine (assert_w _ w).mono ?_
  rintro e w1 ⟨rfl, rfl⟩
  go_wp2_with fail
  refine HC.out.mono ?_
  rintro e w2 ⟨rfl, hl, hb⟩
  have hblk := hb.at H.out.blk H.out.out
  have c0 := cell_at (j := 0) hblk rfl
  have g0 : w2.frozen? ⟨bb, 0, none⟩ = false := frozen_of_row _ _ _ _ _ hblk
  have HF := Lib.hid (bld_end H.out hl hb)
  clear hl hb hblk b0 HC H
  go_wp2_with fail
  exact bodyPost_end (results_none rfl _ _ _) rfl ⟨rfl, HF.out.1, HF.out.2⟩
set_option maxRecDepth 100000 in
set_option maxHeartbeats 800000 in
theorem bld_prepend_w {G : Nat → Prop} {w : World} {bb lb n : Nat} {xs : List Int} (x : Int) (h : Bld G w bb lb n xs) {m : Nat} {ys : List Int}
    (hc : Calls Try.prog 67 #[.pointer (some ⟨lb, 0, none⟩), .int .i64 x, .bool true] w (SPostG G w (.pointer (some ⟨lb, 0, none⟩)) m ys)) :
    Calls Try.prog 47 #[.pointer (some ⟨bb, 0, none⟩), .int .i64 x] w fun e w' => e = .returned (.tuple #[]) ∧ Bld G w' bb lb m ys ∧ But (fun x => G x ∨ x = bb) w w' := by
  have b0 := cell_at (j := 0) h.blk rfl
  have H := Lib.hid h
  have HC := Lib.hid hc
  clear h hc
  go_enter Try.func47, Try.ntmps47
  go_wp2_with fail
  refine (assert_w _ w).mono ?_
  rintro e w1 ⟨rfl, rfl⟩
  go_wp2_with fail
  refine HC.out.mono ?_
  rintro e w2 ⟨rfl, hl, hb⟩
  have hblk := hb.at H.out.blk H.out.out
  have c0 := cell_at (j := 0) hblk rfl
  have g0 : w2.frozen? ⟨bb, 0, none⟩ = false := frozen_of_row _ _ _ _ _ hblk
  have HF := Lib.hid (bld_end H.out hl hb)
  clear hl hb hblk b0 HC H
  go_wp2_with fail
  exact bodyPost_end (results_none rfl _ _ _) rfl ⟨rfl, HF.out.1, HF.out.2⟩
set_option maxRecDepth 100000 in
set_option maxHeartbeats 800000 in
theorem bld_set_w {G : Nat → Prop} {w : World} {bb lb n : Nat} {xs : List Int} (i x : Int) (h : Bld G w bb lb n xs) {m : Nat} {ys : List Int}
    (hc : Calls Try.prog 68 #[.pointer (some ⟨lb, 0, none⟩), .int .i64 i, .int .i64 x, .bool true] w (SPostG G w (.pointer (some ⟨lb, 0, none⟩)) m ys)) :
    Calls Try.prog 48 #[.pointer (some ⟨bb, 0, none⟩), .int .i64 i, .int .i64 x] w fun e w' => e = .returned (.tuple #[]) ∧ Bld G w' bb lb m ys ∧ But (fun x => G x ∨ x = bb) w w' := by
  have b0 := cell_at (j := 0) h.blk rfl
  have H := Lib.hid h
  have HC := Lib.hid hc
  clear h hc
  go_enter Try.func48, Try.ntmps48
  go_wp2_with fail
  refine (assert_w _ w).mono ?_
  rintro e w1 ⟨rfl, rfl⟩
  go_wp2_with fail
  refine HC.out.mono ?_
  rintro e w2 ⟨rfl, hl, hb⟩
  have hblk := hb.at H.out.blk H.out.out
  have c0 := cell_at (j := 0) hblk rfl
  have g0 : w2.frozen? ⟨bb, 0, none⟩ = false := frozen_of_row _ _ _ _ _ hblk
  have HF := Lib.hid (bld_end H.out hl hb)
  clear hl hb hblk b0 HC H
  go_wp2_with fail
  exact bodyPost_end (results_none rfl _ _ _) rfl ⟨rfl, HF.out.1, HF.out.2⟩
set_option maxRecDepth 100000 in
set_option maxHeartbeats 800000 in
theorem bld_set_p {w : World} {bb lb : Nat} (i x : Int) (h : w.heap[bb]? = some (.cells #[.pointer (some ⟨lb, 0, none⟩)] 115 (0, 0)))
    (hc : Calls Try.prog 68 #[.pointer (some ⟨lb, 0, none⟩), .int .i64 i, .int .i64 x, .bool true] w (Threw w)) :
    Calls Try.prog 48 #[.pointer (some ⟨bb, 0, none⟩), .int .i64 i, .int .i64 x] w (Threw w) := by
  have b0 := cell_at (j := 0) h rfl
  have HC := Lib.hid hc
  clear h hc
  go_enter Try.func48, Try.ntmps48
  go_wp2_with fail
  refine (assert_w _ w).mono ?_
  rintro e w1 ⟨rfl, rfl⟩
  go_wp2_with fail
  refine HC.out.mono ?_
  rintro e w2 ⟨rfl, v, rfl⟩
  exact ⟨rfl, rfl, v, rfl⟩

set_option maxRecDepth 100000 in
set_option maxHeartbeats 800000 in
theorem bld_slice_w {G : Nat → Prop} {w : World} {bb lb n : Nat} {xs : List Int} (i x : Int) (h : Bld G w bb lb n xs) {m : Nat} {ys : List Int}
    (hc : Calls Try.prog 69 #[.pointer (some ⟨lb, 0, none⟩), .int .i64 i, .int .i64 x, .bool true] w (SPostG G w (.pointer (some ⟨lb, 0, none⟩)) m ys)) :
    Calls Try.prog 49 #[.pointer (some ⟨bb, 0, none⟩), .int .i64 i, .int .i64 x] w fun e w' => e = .returned (.tuple #[]) ∧ Bld G w' bb lb m ys ∧ But (fun x => G x ∨ x = bb) w w' := by
  have b0 := cell_at (j := 0) h.blk rfl
  have H := Lib.hid h
  have HC := Lib.hid hc
  clear h hc
  go_enter Try.func49, Try.ntmps49
  go_wp2_with fail
  refine (assert_w _ w).mono ?_
  rintro e w1 ⟨rfl, rfl⟩
  go_wp2_with fail
  refine HC.out.mono ?_
  rintro e w2 ⟨rfl, hl, hb⟩
  have hblk := hb.at H.out.blk H.out.out
  have c0 := cell_at (j := 0) hblk rfl
  have g0 : w2.frozen? ⟨bb, 0, none⟩ = false := frozen_of_row _ _ _ _ _ hblk
  have HF := Lib.hid (bld_end H.out hl hb)
  clear hl hb hblk b0 HC H
  go_wp2_with fail
  exact bodyPost_end (results_none rfl _ _ _) rfl ⟨rfl, HF.out.1, HF.out.2⟩
set_option maxRecDepth 100000 in
set_option maxHeartbeats 800000 in
theorem bld_slice_p {w : World} {bb lb : Nat} (i x : Int) (h : w.heap[bb]? = some (.cells #[.pointer (some ⟨lb, 0, none⟩)] 115 (0, 0)))
    (hc : Calls Try.prog 69 #[.pointer (some ⟨lb, 0, none⟩), .int .i64 i, .int .i64 x, .bool true] w (Threw w)) :
    Calls Try.prog 49 #[.pointer (some ⟨bb, 0, none⟩), .int .i64 i, .int .i64 x] w (Threw w) := by
  have b0 := cell_at (j := 0) h rfl
  have HC := Lib.hid hc
  clear h hc
  go_enter Try.func49, Try.ntmps49
  go_wp2_with fail
  refine (assert_w _ w).mono ?_
  rintro e w1 ⟨rfl, rfl⟩
  go_wp2_with fail
  refine HC.out.mono ?_
  rintro e w2 ⟨rfl, v, rfl⟩
  exact ⟨rfl, rfl, v, rfl⟩

set_option maxRecDepth 100000 in
set_option maxHeartbeats 800000 in
theorem bld_len_w {w : World} {bb lb : Nat} (h : w.heap[bb]? = some (.cells #[.pointer (some ⟨lb, 0, none⟩)] 115 (0, 0))) {R : Value → World → Prop}
    (hc : Calls Try.prog 61 #[.pointer (some ⟨lb, 0, none⟩)] w fun e w' => ∃ v, e = .returned v ∧ R v w') :
    Calls Try.prog 51 #[.pointer (some ⟨bb, 0, none⟩)] w fun e w' => ∃ v, e = .returned v ∧ R v w' := by
  have b0 := cell_at (j := 0) h rfl
  have HC := Lib.hid hc
  clear h hc
  go_enter Try.func51, Try.ntmps51
  go_wp2_with fail
  refine (assert_w _ w).mono ?_
  rintro e w1 ⟨rfl, rfl⟩
  go_wp2_with fail
  refine HC.out.mono ?_
  rintro e w2 ⟨v, rfl, hr⟩
  have HR := Lib.hid hr
  clear hr b0
  go_wp2_with fail
  go_ret
  exact ⟨v, rfl, HR.out⟩

set_option maxRecDepth 100000 in
set_option maxHeartbeats 800000 in
theorem bld_get_w {w : World} {bb lb : Nat} (i : Int) (h : w.heap[bb]? = some (.cells #[.pointer (some ⟨lb, 0, none⟩)] 115 (0, 0))) {R : Value → World → Prop}
    (hc : Calls Try.prog 62 #[.pointer (some ⟨lb, 0, none⟩), .int .i64 i] w fun e w' => ∃ v, e = .returned v ∧ R v w') :
    Calls Try.prog 52 #[.pointer (some ⟨bb, 0, none⟩), .int .i64 i] w fun e w' => ∃ v, e = .returned v ∧ R v w' := by
  have b0 := cell_at (j := 0) h rfl
  have HC := Lib.hid hc
  clear h hc
  go_enter Try.func52, Try.ntmps52
  go_wp2_with fail
  refine (assert_w _ w).mono ?_
  rintro e w1 ⟨rfl, rfl⟩
  go_wp2_with fail
  refine HC.out.mono ?_
  rintro e w2 ⟨v, rfl, hr⟩
  have HR := Lib.hid hr
  clear hr b0
  go_wp2_with fail
  go_ret
  exact ⟨v, rfl, HR.out⟩

set_option maxRecDepth 100000 in
set_option maxHeartbeats 800000 in
theorem bld_iter_w {w : World} {bb lb : Nat} (h : w.heap[bb]? = some (.cells #[.pointer (some ⟨lb, 0, none⟩)] 115 (0, 0))) {R : Value → World → Prop}
    (hc : Calls Try.prog 35 #[.pointer (some ⟨lb, 0, none⟩)] w fun e w' => ∃ v, e = .returned v ∧ R v w') :
    Calls Try.prog 53 #[.pointer (some ⟨bb, 0, none⟩)] w fun e w' => ∃ v, e = .returned v ∧ R v w' := by
  have b0 := cell_at (j := 0) h rfl
  have HC := Lib.hid hc
  clear h hc
  go_enter Try.func53, Try.ntmps53
  go_wp2_with fail
  refine (assert_w _ w).mono ?_
  rintro e w1 ⟨rfl, rfl⟩
  go_wp2_with fail
  refine HC.out.mono ?_
  rintro e w2 ⟨v, rfl, hr⟩
  have HR := Lib.hid hr
  clear hr b0
  go_wp2_with fail
  go_ret
  exact ⟨v, rfl, HR.out⟩

set_option maxRecDepth 100000 in
set_option maxHeartbeats 800000 in
theorem bld_list_w {w : World} {bb lb : Nat} (h : w.heap[bb]? = some (.cells #[.pointer (some ⟨lb, 0, none⟩)] 115 (0, 0))) :
    Calls Try.prog 54 #[.pointer (some ⟨bb, 0, none⟩)] w fun e w' => e = .returned (.pointer (some ⟨lb, 0, none⟩)) ∧ w' = w.setCell ⟨bb, 0, none⟩ (.pointer none) := by
  have b0 := cell_at (j := 0) h rfl
  have g0 : w.frozen? ⟨bb, 0, none⟩ = false := frozen_of_row _ _ _ _ _ h
  clear h
  go_enter Try.func54, Try.ntmps54
  go_wp2_with fail
  refine (assert_w _ w).mono ?_
  rintro e w1 ⟨rfl, rfl⟩
  go_wp2_with fail
  go_ret
  exact ⟨rfl, rfl⟩

set_option maxRecDepth 100000 in
set_option maxHeartbeats 400000 in
theorem counted_w (m : Int) (w : World) (hm : m ≤ 100000) : Calls Try.prog 50 #[.int .i64 m] w fun e w' => e = .returned (.int .i64 m) ∧ w' = w := by
  have h1 : decide ((100000 : Int) < m) = false := by simp; omega
  go_enter Try.func50, Try.ntmps50
  go_wp2_with fail
  go_ret
  exact ⟨rfl, rfl⟩

end Go.Proofs.Ytnahipfdnadccaa

