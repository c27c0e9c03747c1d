/- The walks over a closure's single steps. Conditions of this file: none (plain walks). -/
import Derived.Test.YtnahipfdnadccaaBut
namespace Go.Proofs.Ytnahipfdnadccaa
open Go.RowKit

set_option maxRecDepth 100000 in
set_option maxHeartbeats 800000 in
theorem clos_w0 (bs bf bx pv : Nat) (F I E V : Int) (u : Value) (w : World) (N : Nat) (ys : List Int)
    (hs : w.heap[bs]? = some (.cells #[.int .u8 0, .int .i64 F, .int .i64 I, .int .i64 E, .int .i64 V] 29 (0, 0)))
    (hf : w.heap[bf]? = some (.cells #[.pointer (some ⟨pv, 0, none⟩)] 72 (0, 0)))
    (hx : w.heap[bx]? = some (.cells #[u] 72 (0, 0))) (R : Ending → World → Prop) (T' T : Prop)
    (H : Calls Try.prog 57 #[.pointer (some ⟨pv, 0, none⟩), .int .i64 V] w R) (hR : ∀ e w', R e w' → (T' ∧ ListPost w N ys e w') ∨ (T ∧ Threw w e w')) :
    Calls Try.prog 56 #[.pointer (some ⟨bs, 0, none⟩), .pointer (some ⟨bf, 0, none⟩), .pointer (some ⟨bx, 0, none⟩)] w fun e w' => (T' ∧ CPost w bx N ys e w') ∨ (T ∧ Threw w e w') := by
  have s0 := cell_at (j := 0) hs rfl
  have s2 := cell_at (j := 2) hs rfl
  have s3 := cell_at (j := 3) hs rfl
  have s4 := cell_at (j := 4) hs rfl
  have f0 := cell_at (j := 0) hf rfl
  have HR := Lib.hid hR; clear hR
  have HX := Lib.hid hx; clear hx hs hf
  go_enter Try.func56, Try.ntmps56
  go_wp2_with fail
  refine H.mono ?_
  intro e w' h
  rcases HR.out e w' h with ⟨ht, r, rfl, h1, h2⟩ | ⟨ht, rfl, v, rfl⟩
  · have H1 := Lib.hid h1
    have H2 := Lib.hid h2
    have hx' : w'.heap[bx]? = some (.cells #[u] 72 (0, 0)) := (But.of_below (S := fun _ => False) h2).at HX.out id
    obtain ⟨b', d', o', rfl, _⟩ := h1
    have hx0 := cell_at (j := 0) hx' rfl
    have hx1 := frozen_of_row _ _ 0 _ _ hx'
    have HX' := Lib.hid hx'
    clear hx' h2 h s0 s2 s3 s4 f0 H
    go_wp2_with fail
    refine bodyPost_end (results_none rfl _ _ _) rfl ?_
    exact .inl ⟨ht, cpost_end HX'.out H1.out (But.of_below H2.out)⟩
  · exact ⟨rfl, .inr ⟨ht, rfl, v, rfl⟩⟩


set_option maxRecDepth 100000 in
set_option maxHeartbeats 800000 in
theorem clos_w1 (bs bf bx pv : Nat) (F I E V : Int) (u : Value) (w : World) (N : Nat) (ys : List Int)
    (hs : w.heap[bs]? = some (.cells #[.int .u8 1, .int .i64 F, .int .i64 I, .int .i64 E, .int .i64 V] 29 (0, 0)))
    (hf : w.heap[bf]? = some (.cells #[.pointer (some ⟨pv, 0, none⟩)] 72 (0, 0)))
    (hx : w.heap[bx]? = some (.cells #[u] 72 (0, 0))) (R : Ending → World → Prop) (T' T : Prop)
    (H : Calls Try.prog 58 #[.pointer (some ⟨pv, 0, none⟩), .int .i64 V] w R) (hR : ∀ e w', R e w' → (T' ∧ ListPost w N ys e w') ∨ (T ∧ Threw w e w')) :
    Calls Try.prog 56 #[.pointer (some ⟨bs, 0, none⟩), .pointer (some ⟨bf, 0, none⟩), .pointer (some ⟨bx, 0, none⟩)] w fun e w' => (T' ∧ CPost w bx N ys e w') ∨ (T ∧ Threw w e w') := by
  have s0 := cell_at (j := 0) hs rfl
  have s2 := cell_at (j := 2) hs rfl
  have s3 := cell_at (j := 3) hs rfl
  have s4 := cell_at (j := 4) hs rfl
  have f0 := cell_at (j := 0) hf rfl
  have HR := Lib.hid hR; clear hR
  have HX := Lib.hid hx; clear hx hs hf
  go_enter Try.func56, Try.ntmps56
  go_wp2_with fail
  refine H.mono ?_
  intro e w' h
  rcases HR.out e w' h with ⟨ht, r, rfl, h1, h2⟩ | ⟨ht, rfl, v, rfl⟩
  · have H1 := Lib.hid h1
    have H2 := Lib.hid h2
    have hx' : w'.heap[bx]? = some (.cells #[u] 72 (0, 0)) := (But.of_below (S := fun _ => False) h2).at HX.out id
    obtain ⟨b', d', o', rfl, _⟩ := h1
    have hx0 := cell_at (j := 0) hx' rfl
    have hx1 := frozen_of_row _ _ 0 _ _ hx'
    have HX' := Lib.hid hx'
    clear hx' h2 h s0 s2 s3 s4 f0 H
    go_wp2_with fail
    refine bodyPost_end (results_none rfl _ _ _) rfl ?_
    exact .inl ⟨ht, cpost_end HX'.out H1.out (But.of_below H2.out)⟩
  · exact ⟨rfl, .inr ⟨ht, rfl, v, rfl⟩⟩


set_option maxRecDepth 100000 in
set_option maxHeartbeats 800000 in
theorem clos_w2 (bs bf bx pv : Nat) (F I E V : Int) (u : Value) (w : World) (N : Nat) (ys : List Int)
    (hs : w.heap[bs]? = some (.cells #[.int .u8 2, .int .i64 F, .int .i64 I, .int .i64 E, .int .i64 V] 29 (0, 0)))
    (hf : w.heap[bf]? = some (.cells #[.pointer (some ⟨pv, 0, none⟩)] 72 (0, 0)))
    (hx : w.heap[bx]? = some (.cells #[u] 72 (0, 0))) (R : Ending → World → Prop) (T' T : Prop)
    (H : Calls Try.prog 59 #[.pointer (some ⟨pv, 0, none⟩), .int .i64 I, .int .i64 V] w R) (hR : ∀ e w', R e w' → (T' ∧ ListPost w N ys e w') ∨ (T ∧ Threw w e w')) :
    Calls Try.prog 56 #[.pointer (some ⟨bs, 0, none⟩), .pointer (some ⟨bf, 0, none⟩), .pointer (some ⟨bx, 0, none⟩)] w fun e w' => (T' ∧ CPost w bx N ys e w') ∨ (T ∧ Threw w e w') := by
  have s0 := cell_at (j := 0) hs rfl
  have s2 := cell_at (j := 2) hs rfl
  have s3 := cell_at (j := 3) hs rfl
  have s4 := cell_at (j := 4) hs rfl
  have f0 := cell_at (j := 0) hf rfl
  have HR := Lib.hid hR; clear hR
  have HX := Lib.hid hx; clear hx hs hf
  go_enter Try.func56, Try.ntmps56
  go_wp2_with fail
  refine H.mono ?_
  intro e w' h
  rcases HR.out e w' h with ⟨ht, r, rfl, h1, h2⟩ | ⟨ht, rfl, v, rfl⟩
  · have H1 := Lib.hid h1
    have H2 := Lib.hid h2
    have hx' : w'.heap[bx]? = some (.cells #[u] 72 (0, 0)) := (But.of_below (S := fun _ => False) h2).at HX.out id
    obtain ⟨b', d', o', rfl, _⟩ := h1
    have hx0 := cell_at (j := 0) hx' rfl
    have hx1 := frozen_of_row _ _ 0 _ _ hx'
    have HX' := Lib.hid hx'
    clear hx' h2 h s0 s2 s3 s4 f0 H
    go_wp2_with fail
    refine bodyPost_end (results_none rfl _ _ _) rfl ?_
    exact .inl ⟨ht, cpost_end HX'.out H1.out (But.of_below H2.out)⟩
  · exact ⟨rfl, .inr ⟨ht, rfl, v, rfl⟩⟩


set_option maxRecDepth 100000 in
set_option maxHeartbeats 800000 in
theorem clos_w3 (bs bf bx pv : Nat) (F I E V : Int) (u : Value) (w : World) (N : Nat) (ys : List Int)
    (hs : w.heap[bs]? = some (.cells #[.int .u8 3, .int .i64 F, .int .i64 I, .int .i64 E, .int .i64 V] 29 (0, 0)))
    (hf : w.heap[bf]? = some (.cells #[.pointer (some ⟨pv, 0, none⟩)] 72 (0, 0)))
    (hx : w.heap[bx]? = some (.cells #[u] 72 (0, 0))) (R : Ending → World → Prop) (T' T : Prop)
    (H : Calls Try.prog 60 #[.pointer (some ⟨pv, 0, none⟩), .int .i64 I, .int .i64 E] w R) (hR : ∀ e w', R e w' → (T' ∧ ListPost w N ys e w') ∨ (T ∧ Threw w e w')) :
    Calls Try.prog 56 #[.pointer (some ⟨bs, 0, none⟩), .pointer (some ⟨bf, 0, none⟩), .pointer (some ⟨bx, 0, none⟩)] w fun e w' => (T' ∧ CPost w bx N ys e w') ∨ (T ∧ Threw w e w') := by
  have s0 := cell_at (j := 0) hs rfl
  have s2 := cell_at (j := 2) hs rfl
  have s3 := cell_at (j := 3) hs rfl
  have s4 := cell_at (j := 4) hs rfl
  have f0 := cell_at (j := 0) hf rfl
  have HR := Lib.hid hR; clear hR
  have HX := Lib.hid hx; clear hx hs hf
  go_enter Try.func56, Try.ntmps56
  go_wp2_with fail
  refine H.mono ?_
  intro e w' h
  rcases HR.out e w' h with ⟨ht, r, rfl, h1, h2⟩ | ⟨ht, rfl, v, rfl⟩
  · have H1 := Lib.hid h1
    have H2 := Lib.hid h2
    have hx' : w'.heap[bx]? = some (.cells #[u] 72 (0, 0)) := (But.of_below (S := fun _ => False) h2).at HX.out id
    obtain ⟨b', d', o', rfl, _⟩ := h1
    have hx0 := cell_at (j := 0) hx' rfl
    have hx1 := frozen_of_row _ _ 0 _ _ hx'
    have HX' := Lib.hid hx'
    clear hx' h2 h s0 s2 s3 s4 f0 H
    go_wp2_with fail
    refine bodyPost_end (results_none rfl _ _ _) rfl ?_
    exact .inl ⟨ht, cpost_end HX'.out H1.out (But.of_below H2.out)⟩
  · exact ⟨rfl, .inr ⟨ht, rfl, v, rfl⟩⟩

end Go.Proofs.Ytnahipfdnadccaa
