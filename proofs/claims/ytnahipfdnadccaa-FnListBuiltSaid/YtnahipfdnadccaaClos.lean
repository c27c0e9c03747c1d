/- The walks over a closure's single steps. Conditions of this file: none (plain walks).

The walks over a closure's loops. Conditions of this file: none (plain walks).

What a closure of versionsOf does, and thrown of it. Conditions of this file: none. -/
import Derived.Test.YtnahipfdnadccaaBut
import Derived.Test.YtnahipfdnadccaaListG
import Derived.Test.YtnahipfdnadccaaThrown
import Derived.Test.YtnahipfdnadccaaSliceC
import Derived.Deep.LoopGhost
namespace Go.Proofs.Ytnahipfdnadccaa
open Go.RowKit

set_option maxRecDepth 100000 in
set_option maxHeartbeats 800000 in
theorem clos_w0 (bs bf bx pv : Nat) (F I E V : Int) (u : Value) (w : World) (N : Nat) (ys : List Int)
    (hs : w.heap[bs]? = some (.cells #[.int .u8 0, .int .i64 F, .int .i64 I, .int .i64 E, .int .i64 V] 29 (0, 0)))
    (hf : w.heap[bf]? = some (.cells #[.pointer (some ⟨pv, 0, none⟩)] 72 (0, 0)))
    (hx : w.heap[bx]? = some (.cells #[u] 72 (0, 0))) (R : Ending → World → Prop) (T' T : Prop)
    (H : Calls Try.prog 57 #[.pointer (some ⟨pv, 0, none⟩), .int .i64 V] w R) (hR : ∀ e w', R e w' → (T' ∧ ListPost w N ys e w') ∨ (T ∧ Threw w e w')) :
    Calls Try.prog 56 #[.pointer (some ⟨bs, 0, none⟩), .pointer (some ⟨bf, 0, none⟩), .pointer (some ⟨bx, 0, none⟩)] w fun e w' => (T' ∧ CPost w bx N ys e w') ∨ (T ∧ Threw w e w') := by
  have s0 := cell_at (j := 0) hs rfl
  have s2 := cell_at (j := 2) hs rfl
  have s3 := cell_at (j := 3) hs rfl
  have s4 := cell_at (j := 4) hs rfl
  have f0 := cell_at (j := 0) hf rfl
  have HR := Lib.hid hR; clear hR
  have HX := Lib.hid hx; clear hx hs hf
  go_enter Try.func56, Try.ntmps56
  go_wp2_with fail
  refine H.mono ?_
  intro e w' h
  rcases HR.out e w' h with ⟨ht, r, rfl, h1, h2⟩ | ⟨ht, rfl, v, rfl⟩
  · have H1 := Lib.hid h1
    have H2 := Lib.hid h2
    have hx' : w'.heap[bx]? = some (.cells #[u] 72 (0, 0)) := (But.of_below (S := fun _ => False) h2).at HX.out id
    obtain ⟨b', d', o', rfl, _⟩ := h1
    have hx0 := cell_at (j := 0) hx' rfl
    have hx1 := frozen_of_row _ _ 0 _ _ hx'
    have HX' := Lib.hid hx'
    clear hx' h2 h s0 s2 s3 s4 f0 H
    go_wp2_with fail
    refine bodyPost_end (results_none rfl _ _ _) rfl ?_
    exact .inl ⟨ht, cpost_end HX'.out H1.out (But.of_below H2.out)⟩
  · exact ⟨rfl, .inr ⟨ht, rfl, v, rfl⟩⟩


set_option maxRecDepth 100000 in
set_option maxHeartbeats 800000 in
theorem clos_w1 (bs bf bx pv : Nat) (F I E V : Int) (u : Value) (w : World) (N : Nat) (ys : List Int)
    (hs : w.heap[bs]? = some (.cells #[.int .u8 1, .int .i64 F, .int .i64 I, .int .i64 E, .int .i64 V] 29 (0, 0)))
    (hf : w.heap[bf]? = some (.cells #[.pointer (some ⟨pv, 0, none⟩)] 72 (0, 0)))
    (hx : w.heap[bx]? = some (.cells #[u] 72 (0, 0))) (R : Ending → World → Prop) (T' T : Prop)
    (H : Calls Try.prog 58 #[.pointer (some ⟨pv, 0, none⟩), .int .i64 V] w R) (hR : ∀ e w', R e w' → (T' ∧ ListPost w N ys e w') ∨ (T ∧ Threw w e w')) :
    Calls Try.prog 56 #[.pointer (some ⟨bs, 0, none⟩), .pointer (some ⟨bf, 0, none⟩), .pointer (some ⟨bx, 0, none⟩)] w fun e w' => (T' ∧ CPost w bx N ys e w') ∨ (T ∧ Threw w e w') := by
  have s0 := cell_at (j := 0) hs rfl
  have s2 := cell_at (j := 2) hs rfl
  have s3 := cell_at (j := 3) hs rfl
  have s4 := cell_at (j := 4) hs rfl
  have f0 := cell_at (j := 0) hf rfl
  have HR := Lib.hid hR; clear hR
  have HX := Lib.hid hx; clear hx hs hf
  go_enter Try.func56, Try.ntmps56
  go_wp2_with fail
  refine H.mono ?_
  intro e w' h
  rcases HR.out e w' h with ⟨ht, r, rfl, h1, h2⟩ | ⟨ht, rfl, v, rfl⟩
  · have H1 := Lib.hid h1
    have H2 := Lib.hid h2
    have hx' : w'.heap[bx]? = some (.cells #[u] 72 (0, 0)) := (But.of_below (S := fun _ => False) h2).at HX.out id
    obtain ⟨b', d', o', rfl, _⟩ := h1
    have hx0 := cell_at (j := 0) hx' rfl
    have hx1 := frozen_of_row _ _ 0 _ _ hx'
    have HX' := Lib.hid hx'
    clear hx' h2 h s0 s2 s3 s4 f0 H
    go_wp2_with fail
    refine bodyPost_end (results_none rfl _ _ _) rfl ?_
    exact .inl ⟨ht, cpost_end HX'.out H1.out (But.of_below H2.out)⟩
  · exact ⟨rfl, .inr ⟨ht, rfl, v, rfl⟩⟩


set_option maxRecDepth 100000 in
set_option maxHeartbeats 800000 in
theorem clos_w2 (bs bf bx pv : Nat) (F I E V : Int) (u : Value) (w : World) (N : Nat) (ys : List Int)
    (hs : w.heap[bs]? = some (.cells #[.int .u8 2, .int .i64 F, .int .i64 I, .int .i64 E, .int .i64 V] 29 (0, 0)))
    (hf : w.heap[bf]? = some (.cells #[.pointer (some ⟨pv, 0, none⟩)] 72 (0, 0)))
    (hx : w.heap[bx]? = some (.cells #[u] 72 (0, 0))) (R : Ending → World → Prop) (T' T : Prop)
    (H : Calls Try.prog 59 #[.pointer (some ⟨pv, 0, none⟩), .int .i64 I, .int .i64 V] w R) (hR : ∀ e w', R e w' → (T' ∧ ListPost w N ys e w') ∨ (T ∧ Threw w e w')) :
    Calls Try.prog 56 #[.pointer (some ⟨bs, 0, none⟩), .pointer (some ⟨bf, 0, none⟩), .pointer (some ⟨bx, 0, none⟩)] w fun e w' => (T' ∧ CPost w bx N ys e w') ∨ (T ∧ Threw w e w') := by
  have s0 := cell_at (j := 0) hs rfl
  have s2 := cell_at (j := 2) hs rfl
  have s3 := cell_at (j := 3) hs rfl
  have s4 := cell_at (j := 4) hs rfl
  have f0 := cell_at (j := 0) hf rfl
  have HR := Lib.hid hR; clear hR
  have HX := Lib.hid hx; clear hx hs hf
  go_enter Try.func56, Try.ntmps56
  go_wp2_with fail
  refine H.mono ?_
  intro e w' h
  rcases HR.out e w' h with ⟨ht, r, rfl, h1, h2⟩ | ⟨ht, rfl, v, rfl⟩
  · have H1 := Lib.hid h1
    have H2 := Lib.hid h2
    have hx' : w'.heap[bx]? = some (.cells #[u] 72 (0, 0)) := (But.of_below (S := fun _ => False) h2).at HX.out id
    obtain ⟨b', d', o', rfl, _⟩ := h1
    have hx0 := cell_at (j := 0) hx' rfl
    have hx1 := frozen_of_row _ _ 0 _ _ hx'
    have HX' := Lib.hid hx'
    clear hx' h2 h s0 s2 s3 s4 f0 H
    go_wp2_with fail
    refine bodyPost_end (results_none rfl _ _ _) rfl ?_
    exact .inl ⟨ht, cpost_end HX'.out H1.out (But.of_below H2.out)⟩
  · exact ⟨rfl, .inr ⟨ht, rfl, v, rfl⟩⟩


set_option maxRecDepth 100000 in
set_option maxHeartbeats 800000 in
theorem clos_w3 (bs bf bx pv : Nat) (F I E V : Int) (u : Value) (w : World) (N : Nat) (ys : List Int)
    (hs : w.heap[bs]? = some (.cells #[.int .u8 3, .int .i64 F, .int .i64 I, .int .i64 E, .int .i64 V] 29 (0, 0)))
    (hf : w.heap[bf]? = some (.cells #[.pointer (some ⟨pv, 0, none⟩)] 72 (0, 0)))
    (hx : w.heap[bx]? = some (.cells #[u] 72 (0, 0))) (R : Ending → World → Prop) (T' T : Prop)
    (H : Calls Try.prog 60 #[.pointer (some ⟨pv, 0, none⟩), .int .i64 I, .int .i64 E] w R) (hR : ∀ e w', R e w' → (T' ∧ ListPost w N ys e w') ∨ (T ∧ Threw w e w')) :
    Calls Try.prog 56 #[.pointer (some ⟨bs, 0, none⟩), .pointer (some ⟨bf, 0, none⟩), .pointer (some ⟨bx, 0, none⟩)] w fun e w' => (T' ∧ CPost w bx N ys e w') ∨ (T ∧ Threw w e w') := by
  have s0 := cell_at (j := 0) hs rfl
  have s2 := cell_at (j := 2) hs rfl
  have s3 := cell_at (j := 3) hs rfl
  have s4 := cell_at (j := 4) hs rfl
  have f0 := cell_at (j := 0) hf rfl
  have HR := Lib.hid hR; clear hR
  have HX := Lib.hid hx; clear hx hs hf
  go_enter Try.func56, Try.ntmps56
  go_wp2_with fail
  refine H.mono ?_
  intro e w' h
  rcases HR.out e w' h with ⟨ht, r, rfl, h1, h2⟩ | ⟨ht, rfl, v, rfl⟩
  · have H1 := Lib.hid h1
    have H2 := Lib.hid h2
    have hx' : w'.heap[bx]? = some (.cells #[u] 72 (0, 0)) := (But.of_below (S := fun _ => False) h2).at HX.out id
    obtain ⟨b', d', o', rfl, _⟩ := h1
    have hx0 := cell_at (j := 0) hx' rfl
    have hx1 := frozen_of_row _ _ 0 _ _ hx'
    have HX' := Lib.hid hx'
    clear hx' h2 h s0 s2 s3 s4 f0 H
    go_wp2_with fail
    refine bodyPost_end (results_none rfl _ _ _) rfl ?_
    exact .inl ⟨ht, cpost_end HX'.out H1.out (But.of_below H2.out)⟩
  · exact ⟨rfl, .inr ⟨ht, rfl, v, rfl⟩⟩

end Go.Proofs.Ytnahipfdnadccaa

namespace Go.Proofs.Ytnahipfdnadccaa
open Go.RowKit

/-- V, V + 1, .. -/
def up (n : Nat) (V : Int) : List Int := (List.range n).map fun (i : Nat) => wrap64 (V + (i : Int))
theorem up_succ (n : Nat) (V : Int) : up (n + 1) V = up n V ++ [wrap64 (V + n)] := by simp [up, List.range_succ]
theorem up_zero (V : Int) : up 0 V = [] := rfl

set_option maxRecDepth 100000 in
set_option maxHeartbeats 800000 in
theorem clos_w4 (bs bf bx pv : Nat) (F E V : Int) (I : Nat) (u : Value) (w : World) (n : Nat) (xs : List Int)
    (hs : w.heap[bs]? = some (.cells #[.int .u8 4, .int .i64 F, .int .i64 (I : Int), .int .i64 E, .int .i64 V] 29 (0, 0)))
    (hf : w.heap[bf]? = some (.cells #[.pointer (some ⟨pv, 0, none⟩)] 72 (0, 0)))
    (hx : w.heap[bx]? = some (.cells #[u] 72 (0, 0))) (hne : bs ≠ bx) (hl : IsList w (.pointer (some ⟨pv, 0, none⟩)) n xs) (hn : n + I < 33554431) :
    Calls Try.prog 56 #[.pointer (some ⟨bs, 0, none⟩), .pointer (some ⟨bf, 0, none⟩), .pointer (some ⟨bx, 0, none⟩)] w fun e w' => CPost w bx (n + I) (xs ++ up I V) e w' := by
  have s0 := cell_at (j := 0) hs rfl
  have f0 := cell_at (j := 0) hf rfl
  have hx0 := cell_at (j := 0) hx rfl
  have hx1 := frozen_of_row _ _ 0 _ _ hx
  have HX := Lib.hid hx; clear hx
  have HS := Lib.hid hs; clear hs
  have HL := Lib.hid hl; clear hl hf
  go_enter Try.func56, Try.ntmps56
  go_wp2_with fail
  have hX1 : (w.setCell ⟨bx, 0, none⟩ (.pointer (some ⟨pv, 0, none⟩))).heap[bx]? = some (.cells #[.pointer (some ⟨pv, 0, none⟩)] 72 (0, 0)) := heap_setCell_same w bx 0 _ 72 _ HX.out
  have hX2 : But (· = bx) w (w.setCell ⟨bx, 0, none⟩ (.pointer (some ⟨pv, 0, none⟩))) := But.setCell (S := (· = bx)) (But.refl _ w) (p := ⟨bx, 0, none⟩) (.inl rfl) _
  have hX3 := HL.out.stay (stay_var (r := .pointer (some ⟨pv, 0, none⟩)) HX.out)
  generalize w.setCell ⟨bx, 0, none⟩ (.pointer (some ⟨pv, 0, none⟩)) = W at hX1 hX2 hX3 ⊢
  have HX1 := Lib.hid hX1
  have HX2 := Lib.hid hX2
  have HX3 := Lib.hid hX3
  clear hX1 hX2 hX3 s0 f0 hx0 hx1
  go_loopg [3] I (fun k p wr => ∃ (i pr : Nat), p = .int .i64 (i : Int) ∧ i + k = I ∧ wr.heap[bx]? = some (.cells #[.pointer (some ⟨pr, 0, none⟩)] 72 (0, 0)) ∧ IsList wr (.pointer (some ⟨pr, 0, none⟩)) (n + i) (xs ++ up i V) ∧ But (· = bx) w wr)
  case atStart => exact ⟨0, pv, rfl, by omega, HX1.out, by simpa [up_zero] using HX3.out, HX2.out⟩
  case round =>
    clear HX1 HX2 HX3 W
    obtain ⟨i, pr, rfl, hik, g1, g2, g3⟩ := hrel
    have hs1 := g3.at HS.out hne
    have s2 := cell_at (j := 2) hs1 rfl
    have s4 := cell_at (j := 4) hs1 rfl
    have x0 := cell_at (j := 0) g1 rfl
    have G1 := Lib.hid g1
    have G2 := Lib.hid g2
    have G3 := Lib.hid g3
    clear g1 g2 g3 hs1
    by_cases hlt : i < I
    · have h1 : decide ((i : Int) < (I : Int)) = true := by simp; omega
      have hw1 : IntKind.i64.wrap ((i : Int) + 1) = (i : Int) + 1 := by rw [IntKind.wrap_i64]; omega
      have HC := Lib.hid (append_list (wrap64 (V + i)) G2.out (by omega))
      go_wp2_with fail
      refine HC.out.mono ?_
      rintro e w' ⟨r, rfl, k1, k2⟩
      have K1 := Lib.hid k1
      have hx' : w'.heap[bx]? = some (.cells #[.pointer (some ⟨pr, 0, none⟩)] 72 (0, 0)) := (But.of_below (S := fun _ => False) k2).at G1.out id
      have K2 := Lib.hid (G3.out.trans (But.of_below k2))
      obtain ⟨b', d', o', rfl, _⟩ := k1
      have hx0 := cell_at (j := 0) hx' rfl
      have hx1 := frozen_of_row _ _ 0 _ _ hx'
      have HX' := Lib.hid hx'
      clear hx' k2 s2 s4 x0 HC
      go_wp2_with fail
      go_roundg (gk - 1)
      case measure => omega
      case rel =>
        obtain ⟨_, r1, r2, r3, r4⟩ := cpost_end HX'.out K1.out K2.out
        refine ⟨i + 1, b', rfl, by omega, ?_, ?_, r4⟩
        · have := heap_setCell_same w' bx 0 _ 72 (.pointer (some ⟨b', 0, none⟩)) HX'.out
          simpa using this
        · have h2 := K1.out.stay (stay_var (r := .pointer (some ⟨b', 0, none⟩)) HX'.out)
          have e1 : n + (i + 1) = n + i + 1 := by omega
          rw [e1, up_succ]
          simpa using h2
    · have h1 : decide ((i : Int) < (I : Int)) = false := by simp; omega
      obtain rfl : i = I := by omega
      go_wp2_with fail
      refine bodyPost_end (results_none rfl _ _ _) rfl ?_
      exact ⟨rfl, _, G1.out, G2.out, G3.out⟩


set_option maxRecDepth 100000 in
set_option maxHeartbeats 800000 in
theorem clos_w5 (bs bf bx pv : Nat) (F E V : Int) (I : Nat) (u : Value) (w : World) (n : Nat) (xs : List Int)
    (hs : w.heap[bs]? = some (.cells #[.int .u8 5, .int .i64 F, .int .i64 (I : Int), .int .i64 E, .int .i64 V] 29 (0, 0)))
    (hf : w.heap[bf]? = some (.cells #[.pointer (some ⟨pv, 0, none⟩)] 72 (0, 0)))
    (hx : w.heap[bx]? = some (.cells #[u] 72 (0, 0))) (hne : bs ≠ bx) (hl : IsList w (.pointer (some ⟨pv, 0, none⟩)) n xs) (hn : n + I < 33554431) :
    Calls Try.prog 56 #[.pointer (some ⟨bs, 0, none⟩), .pointer (some ⟨bf, 0, none⟩), .pointer (some ⟨bx, 0, none⟩)] w fun e w' => CPost w bx (n + I) ((up I V).reverse ++ xs) e w' := by
  have s0 := cell_at (j := 0) hs rfl
  have f0 := cell_at (j := 0) hf rfl
  have hx0 := cell_at (j := 0) hx rfl
  have hx1 := frozen_of_row _ _ 0 _ _ hx
  have HX := Lib.hid hx; clear hx
  have HS := Lib.hid hs; clear hs
  have HL := Lib.hid hl; clear hl hf
  go_enter Try.func56, Try.ntmps56
  go_wp2_with fail
  have hX1 : (w.setCell ⟨bx, 0, none⟩ (.pointer (some ⟨pv, 0, none⟩))).heap[bx]? = some (.cells #[.pointer (some ⟨pv, 0, none⟩)] 72 (0, 0)) := heap_setCell_same w bx 0 _ 72 _ HX.out
  have hX2 : But (· = bx) w (w.setCell ⟨bx, 0, none⟩ (.pointer (some ⟨pv, 0, none⟩))) := But.setCell (S := (· = bx)) (But.refl _ w) (p := ⟨bx, 0, none⟩) (.inl rfl) _
  have hX3 := HL.out.stay (stay_var (r := .pointer (some ⟨pv, 0, none⟩)) HX.out)
  generalize w.setCell ⟨bx, 0, none⟩ (.pointer (some ⟨pv, 0, none⟩)) = W at hX1 hX2 hX3 ⊢
  have HX1 := Lib.hid hX1
  have HX2 := Lib.hid hX2
  have HX3 := Lib.hid hX3
  clear hX1 hX2 hX3 s0 f0 hx0 hx1
  go_loopg [4] I (fun k p wr => ∃ (i pr : Nat), p = .int .i64 (i : Int) ∧ i + k = I ∧ wr.heap[bx]? = some (.cells #[.pointer (some ⟨pr, 0, none⟩)] 72 (0, 0)) ∧ IsList wr (.pointer (some ⟨pr, 0, none⟩)) (n + i) ((up i V).reverse ++ xs) ∧ But (· = bx) w wr)
  case atStart => exact ⟨0, pv, rfl, by omega, HX1.out, by simpa [up_zero] using HX3.out, HX2.out⟩
  case round =>
    clear HX1 HX2 HX3 W
    obtain ⟨i, pr, rfl, hik, g1, g2, g3⟩ := hrel
    have hs1 := g3.at HS.out hne
    have s2 := cell_at (j := 2) hs1 rfl
    have s4 := cell_at (j := 4) hs1 rfl
    have x0 := cell_at (j := 0) g1 rfl
    have G1 := Lib.hid g1
    have G2 := Lib.hid g2
    have G3 := Lib.hid g3
    clear g1 g2 g3 hs1
    by_cases hlt : i < I
    · have h1 : decide ((i : Int) < (I : Int)) = true := by simp; omega
      have hw1 : IntKind.i64.wrap ((i : Int) + 1) = (i : Int) + 1 := by rw [IntKind.wrap_i64]; omega
      have HC := Lib.hid (prepend_list (wrap64 (V + i)) G2.out (by omega))
      go_wp2_with fail
      refine HC.out.mono ?_
      rintro e w' ⟨r, rfl, k1, k2⟩
      have K1 := Lib.hid k1
      have hx' : w'.heap[bx]? = some (.cells #[.pointer (some ⟨pr, 0, none⟩)] 72 (0, 0)) := (But.of_below (S := fun _ => False) k2).at G1.out id
      have K2 := Lib.hid (G3.out.trans (But.of_below k2))
      obtain ⟨b', d', o', rfl, _⟩ := k1
      have hx0 := cell_at (j := 0) hx' rfl
      have hx1 := frozen_of_row _ _ 0 _ _ hx'
      have HX' := Lib.hid hx'
      clear hx' k2 s2 s4 x0 HC
      go_wp2_with fail
      go_roundg (gk - 1)
      case measure => omega
      case rel =>
        obtain ⟨_, r1, r2, r3, r4⟩ := cpost_end HX'.out K1.out K2.out
        refine ⟨i + 1, b', rfl, by omega, ?_, ?_, r4⟩
        · have := heap_setCell_same w' bx 0 _ 72 (.pointer (some ⟨b', 0, none⟩)) HX'.out
          simpa using this
        · have h2 := K1.out.stay (stay_var (r := .pointer (some ⟨b', 0, none⟩)) HX'.out)
          have e1 : n + (i + 1) = n + i + 1 := by omega
          rw [e1, up_succ]
          simpa using h2
    · have h1 : decide ((i : Int) < (I : Int)) = false := by simp; omega
      obtain rfl : i = I := by omega
      go_wp2_with fail
      refine bodyPost_end (results_none rfl _ _ _) rfl ?_
      exact ⟨rfl, _, G1.out, G2.out, G3.out⟩

end Go.Proofs.Ytnahipfdnadccaa

namespace Go.Proofs.Ytnahipfdnadccaa
open Go.RowKit

/-- what a step of a kind makes of a list; none: it panics -/
def stepOf (xs : List Int) (k : Nat) (I E V : Int) : Option (List Int) :=
  if k = 0 then some (xs ++ [V]) else if k = 1 then some (V :: xs)
  else if k = 2 then (if 0 ≤ I ∧ I < xs.length then some (xs.set I.toNat V) else none)
  else if k = 3 then (if 0 ≤ I ∧ I ≤ E ∧ E ≤ xs.length then some ((xs.drop I.toNat).take (E.toNat - I.toNat)) else none)
  else if k = 4 then some (xs ++ up I.toNat V) else some ((up I.toNat V).reverse ++ xs)

theorem clos_any (bs bf bx pv k : Nat) (F I E V : Int) (u : Value) (w : World) (n : Nat) (xs : List Int)
    (hs : w.heap[bs]? = some (.cells #[.int .u8 (k : Int), .int .i64 F, .int .i64 I, .int .i64 E, .int .i64 V] 29 (0, 0)))
    (hf : w.heap[bf]? = some (.cells #[.pointer (some ⟨pv, 0, none⟩)] 72 (0, 0)))
    (hx : w.heap[bx]? = some (.cells #[u] 72 (0, 0))) (hne : bs ≠ bx) (hl : IsList w (.pointer (some ⟨pv, 0, none⟩)) n xs) (hk : k ≤ 5)
    (hI : 4 ≤ k → 0 ≤ I ∧ I ≤ 100000) (hn : n + 100000 < 33554431) (hG : Glob w) :
    Calls Try.prog 56 #[.pointer (some ⟨bs, 0, none⟩), .pointer (some ⟨bf, 0, none⟩), .pointer (some ⟨bx, 0, none⟩)] w fun e w' =>
      (∃ ys, stepOf xs k I E V = some ys ∧ CPost w bx (n + (if 4 ≤ k then I.toNat else 1)) ys e w') ∨ (stepOf xs k I E V = none ∧ Threw w e w') := by
  have more : ∀ {ys e w'}, ListPost w n ys e w' → ListPost w (n + 1) ys e w' := fun ⟨v, h1, h2, h3⟩ => ⟨v, h1, h2.more (by omega), h3⟩
  match k, hk with
  | 0, _ =>
    refine (clos_w0 bs bf bx pv F I E V u w (n + 1) (xs ++ [V]) hs hf hx _ True False (append_list V hl (by omega)) (fun _ _ h => .inl ⟨trivial, h⟩)).mono ?_
    rintro e w' (⟨_, h⟩ | ⟨h, _⟩)
    · exact .inl ⟨_, rfl, h⟩
    · exact h.elim
  | 1, _ =>
    refine (clos_w1 bs bf bx pv F I E V u w (n + 1) (V :: xs) hs hf hx _ True False (prepend_list V hl (by omega)) (fun _ _ h => .inl ⟨trivial, h⟩)).mono ?_
    rintro e w' (⟨_, h⟩ | ⟨h, _⟩)
    · exact .inl ⟨_, rfl, h⟩
    · exact h.elim
  | 2, _ =>
    by_cases h : 0 ≤ I ∧ I < xs.length
    · obtain ⟨i, rfl⟩ : ∃ i : Nat, I = i := ⟨I.toNat, by omega⟩
      refine (clos_w2 bs bf bx pv F i E V u w (n + 1) (xs.set i V) hs hf hx _ True False (set_list V hl (by omega)) (fun _ _ h => .inl ⟨trivial, more h⟩)).mono ?_
      rintro e w' (⟨_, h'⟩ | ⟨h', _⟩)
      · exact .inl ⟨_, if_pos h, h'⟩
      · exact h'.elim
    · refine (clos_w2 bs bf bx pv F I E V u w (n + 1) [] hs hf hx _ False True (set_panics I V hl (by omega)) (fun _ _ h => .inr ⟨trivial, h⟩)).mono ?_
      rintro e w' (⟨h', _⟩ | ⟨_, h'⟩)
      · exact h'.elim
      · exact .inr ⟨if_neg h, h'⟩
  | 3, _ =>
    by_cases h : 0 ≤ I ∧ I ≤ E ∧ E ≤ xs.length
    · obtain ⟨i, rfl⟩ : ∃ i : Nat, I = i := ⟨I.toNat, by omega⟩
      obtain ⟨j, rfl⟩ : ∃ j : Nat, E = j := ⟨E.toNat, by omega⟩
      refine (clos_w3 bs bf bx pv F i j V u w (n + 1) ((xs.drop i).take (j - i)) hs hf hx _ True False (slice_list hl (by omega) (by omega) (by omega) hG) (fun _ _ h => .inl ⟨trivial, more h⟩)).mono ?_
      rintro e w' (⟨_, h'⟩ | ⟨h', _⟩)
      · exact .inl ⟨_, if_pos h, h'⟩
      · exact h'.elim
    · refine (clos_w3 bs bf bx pv F I E V u w (n + 1) [] hs hf hx _ False True (slice_panics I E hl (by omega)) (fun _ _ h => .inr ⟨trivial, h⟩)).mono ?_
      rintro e w' (⟨h', _⟩ | ⟨_, h'⟩)
      · exact h'.elim
      · exact .inr ⟨if_neg h, h'⟩
  | 4, _ =>
    obtain ⟨i, rfl⟩ : ∃ i : Nat, I = i := ⟨I.toNat, by have := hI (by omega); omega⟩
    exact (clos_w4 bs bf bx pv F E V i u w n xs hs hf hx hne hl (by have := hI (by omega); omega)).mono fun e w' h => .inl ⟨_, rfl, h⟩
  | 5, _ =>
    obtain ⟨i, rfl⟩ : ∃ i : Nat, I = i := ⟨I.toNat, by have := hI (by omega); omega⟩
    exact (clos_w5 bs bf bx pv F E V i u w n xs hs hf hx hne hl (by have := hI (by omega); omega)).mono fun e w' h => .inl ⟨_, rfl, h⟩

theorem stay_flag {w : World} {b : Nat} {c : Array Value} {r : Value} (hx : w.heap[b]? = some (.cells c 4 (0, 0))) : Stay w (w.setCell ⟨b, 0, none⟩ r) := by
  refine (But.setCell (S := (· = b)) (But.refl _ w) (p := ⟨b, 0, none⟩) (.inl rfl) r).stay fun b' c t fz hb h => ?_
  subst hb
  rw [hx] at h
  simp only [Option.some.injEq, Obj.cells.injEq] at h
  rw [← h.2.1]
  decide

/-- thrown of a closure of versionsOf -/
theorem thrown_any (bs bf bx pv k : Nat) (F I E V : Int) (u : Value) (w : World) (n : Nat) (xs : List Int)
    (hs : w.heap[bs]? = some (.cells #[.int .u8 (k : Int), .int .i64 F, .int .i64 I, .int .i64 E, .int .i64 V] 29 (0, 0)))
    (hf : w.heap[bf]? = some (.cells #[.pointer (some ⟨pv, 0, none⟩)] 72 (0, 0)))
    (hx : w.heap[bx]? = some (.cells #[u] 72 (0, 0))) (hne : bs ≠ bx) (hl : IsList w (.pointer (some ⟨pv, 0, none⟩)) n xs) (hk : k ≤ 5)
    (hI : 4 ≤ k → 0 ≤ I ∧ I ≤ 100000) (hn : n + 100000 < 33554431) (hG : Glob w) :
    Calls Try.prog 37 #[.func (.func 56) #[] #[.pointer (some ⟨bs, 0, none⟩), .pointer (some ⟨bf, 0, none⟩), .pointer (some ⟨bx, 0, none⟩)]] w fun e w' =>
      (∃ ys r, stepOf xs k I E V = some ys ∧ e = .returned (.bool false) ∧ w'.heap[bx]? = some (.cells #[r] 72 (0, 0)) ∧ IsList w' r (n + (if 4 ≤ k then I.toNat else 1)) ys ∧ But (· = bx) w w') ∨
      (stepOf xs k I E V = none ∧ e = .returned (.bool true) ∧ But (fun _ => False) w w') := by
  have hb : But (fun _ => False) w (w.alloc (.cells #[.bool false] 4)) := (But.refl _ w).alloc _
  have hst : Stay w (w.alloc (.cells #[.bool false] 4)) := hb.stay fun _ _ _ _ h => h.elim
  have hc := clos_any bs bf bx pv k F I E V u _ n xs (hb.at hs id) (hb.at hf id) (hb.at hx id) hne (hl.stay hst) hk hI hn (hG.stay hst)
  have hL : (w.alloc (.cells #[.bool false] 4)).heap[w.heap.size]? = some (.cells #[.bool false] 4 (0, 0)) := heap_alloc_last w _
  have hxL : ¬ w.heap.size = bx := fun e => by have := lt_of_block hx; omega
  refine (thrown_w _ w (fun b w' => (b = false ∧ ∃ ys, stepOf xs k I E V = some ys ∧ CPost (w.alloc (.cells #[.bool false] 4)) bx (n + (if 4 ≤ k then I.toNat else 1)) ys (.returned (.tuple #[])) w') ∨ (b = true ∧ stepOf xs k I E V = none ∧ w' = w.alloc (.cells #[.bool false] 4))) (hc.mono ?_)).mono ?_
  · rintro e w' (⟨ys, h1, h2⟩ | ⟨h1, rfl, v, rfl⟩)
    · obtain ⟨rfl, r, g1, g2, g3⟩ := h2
      have := g3.at hL hxL
      exact ⟨cell_at this rfl, frozen_of_row _ _ _ _ _ this, .inl ⟨rfl, .inl ⟨rfl, ys, h1, rfl, r, g1, g2, g3⟩⟩⟩
    · exact ⟨cell_at hL rfl, frozen_of_row _ _ _ _ _ hL, .inr ⟨_, _, rfl, .inr ⟨rfl, h1, rfl⟩⟩⟩
  · rintro e w'' ⟨b, w', rfl, (⟨rfl, ys, h1, _, r, g1, g2, g3⟩ | ⟨rfl, h1, rfl⟩), h⟩
    · rcases h with ⟨_, rfl⟩ | ⟨h, _⟩
      · refine .inl ⟨ys, r, h1, rfl, ?_, ?_, ?_⟩
        · rw [heap_setCell_other _ _ _ _ (by show bx ≠ w.heap.size; exact fun e => hxL e.symm), heap_setCell_other _ _ _ _ (by show bx ≠ w.heap.size; exact fun e => hxL e.symm)]
          exact g1
        · have hL' := g3.at hL hxL
          exact (g2.stay (stay_flag hL')).stay (stay_flag (heap_setCell_same _ _ _ _ _ _ hL'))
        · exact (((hb.wider (fun _ _ h => h.elim)).trans g3).setCell (p := ⟨w.heap.size, 0, none⟩) (.inr (Nat.le_refl _)) _).setCell (p := ⟨w.heap.size, 0, none⟩) (.inr (Nat.le_refl _)) _
      · cases h
    · rcases h with ⟨h, _⟩ | ⟨_, rfl⟩
      · cases h
      · exact .inr ⟨h1, rfl, hb.setCell (p := ⟨w.heap.size, 0, none⟩) (.inr (Nat.le_refl _)) _⟩

end Go.Proofs.Ytnahipfdnadccaa
