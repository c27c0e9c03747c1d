/- The walks over a closure's loops. Conditions of this file: none (plain walks). -/
import Derived.Test.YtnahipfdnadccaaBut
import Derived.Test.YtnahipfdnadccaaListG
import Derived.Deep.LoopGhost
namespace Go.Proofs.Ytnahipfdnadccaa
open Go.RowKit

/-- V, V + 1, .. -/
def up (n : Nat) (V : Int) : List Int := (List.range n).map fun (i : Nat) => wrap64 (V + (i : Int))
theorem up_succ (n : Nat) (V : Int) : up (n + 1) V = up n V ++ [wrap64 (V + n)] := by simp [up, List.range_succ]
theorem up_zero (V : Int) : up 0 V = [] := rfl

set_option maxRecDepth 100000 in
set_option maxHeartbeats 800000 in
theorem clos_w4 (bs bf bx pv : Nat) (F E V : Int) (I : Nat) (u : Value) (w : World) (n : Nat) (xs : List Int)
    (hs : w.heap[bs]? = some (.cells #[.int .u8 4, .int .i64 F, .int .i64 (I : Int), .int .i64 E, .int .i64 V] 29 (0, 0)))
    (hf : w.heap[bf]? = some (.cells #[.pointer (some ⟨pv, 0, none⟩)] 72 (0, 0)))
    (hx : w.heap[bx]? = some (.cells #[u] 72 (0, 0))) (hne : bs ≠ bx) (hl : IsList w (.pointer (some ⟨pv, 0, none⟩)) n xs) (hn : n + I < 33554431) :
    Calls Try.prog 56 #[.pointer (some ⟨bs, 0, none⟩), .pointer (some ⟨bf, 0, none⟩), .pointer (some ⟨bx, 0, none⟩)] w fun e w' => CPost w bx (n + I) (xs ++ up I V) e w' := by
  have s0 := cell_at (j := 0) hs rfl
  have f0 := cell_at (j := 0) hf rfl
  have hx0 := cell_at (j := 0) hx rfl
  have hx1 := frozen_of_row _ _ 0 _ _ hx
  have HX := Lib.hid hx; clear hx
  have HS := Lib.hid hs; clear hs
  have HL := Lib.hid hl; clear hl hf
  go_enter Try.func56, Try.ntmps56
  go_wp2_with fail
  have hX1 : (w.setCell ⟨bx, 0, none⟩ (.pointer (some ⟨pv, 0, none⟩))).heap[bx]? = some (.cells #[.pointer (some ⟨pv, 0, none⟩)] 72 (0, 0)) := heap_setCell_same w bx 0 _ 72 _ HX.out
  have hX2 : But (· = bx) w (w.setCell ⟨bx, 0, none⟩ (.pointer (some ⟨pv, 0, none⟩))) := But.setCell (S := (· = bx)) (But.refl _ w) (p := ⟨bx, 0, none⟩) (.inl rfl) _
  have hX3 := HL.out.stay (stay_var (r := .pointer (some ⟨pv, 0, none⟩)) HX.out)
  generalize w.setCell ⟨bx, 0, none⟩ (.pointer (some ⟨pv, 0, none⟩)) = W at hX1 hX2 hX3 ⊢
  have HX1 := Lib.hid hX1
  have HX2 := Lib.hid hX2
  have HX3 := Lib.hid hX3
  clear hX1 hX2 hX3 s0 f0 hx0 hx1
  go_loopg [3] I (fun k p wr => ∃ (i pr : Nat), p = .int .i64 (i : Int) ∧ i + k = I ∧ wr.heap[bx]? = some (.cells #[.pointer (some ⟨pr, 0, none⟩)] 72 (0, 0)) ∧ IsList wr (.pointer (some ⟨pr, 0, none⟩)) (n + i) (xs ++ up i V) ∧ But (· = bx) w wr)
  case atStart => exact ⟨0, pv, rfl, by omega, HX1.out, by simpa [up_zero] using HX3.out, HX2.out⟩
  case round =>
    clear HX1 HX2 HX3 W
    obtain ⟨i, pr, rfl, hik, g1, g2, g3⟩ := hrel
    have hs1 := g3.at HS.out hne
    have s2 := cell_at (j := 2) hs1 rfl
    have s4 := cell_at (j := 4) hs1 rfl
    have x0 := cell_at (j := 0) g1 rfl
    have G1 := Lib.hid g1
    have G2 := Lib.hid g2
    have G3 := Lib.hid g3
    clear g1 g2 g3 hs1
    by_cases hlt : i < I
    · have h1 : decide ((i : Int) < (I : Int)) = true := by simp; omega
      have hw1 : IntKind.i64.wrap ((i : Int) + 1) = (i : Int) + 1 := by rw [IntKind.wrap_i64]; omega
      have HC := Lib.hid (append_list (wrap64 (V + i)) G2.out (by omega))
      go_wp2_with fail
      refine HC.out.mono ?_
      rintro e w' ⟨r, rfl, k1, k2⟩
      have K1 := Lib.hid k1
      have hx' : w'.heap[bx]? = some (.cells #[.pointer (some ⟨pr, 0, none⟩)] 72 (0, 0)) := (But.of_below (S := fun _ => False) k2).at G1.out id
      have K2 := Lib.hid (G3.out.trans (But.of_below k2))
      obtain ⟨b', d', o', rfl, _⟩ := k1
      have hx0 := cell_at (j := 0) hx' rfl
      have hx1 := frozen_of_row _ _ 0 _ _ hx'
      have HX' := Lib.hid hx'
      clear hx' k2 s2 s4 x0 HC
      go_wp2_with fail
      go_roundg (gk - 1)
      case measure => omega
      case rel =>
        obtain ⟨_, r1, r2, r3, r4⟩ := cpost_end HX'.out K1.out K2.out
        refine ⟨i + 1, b', rfl, by omega, ?_, ?_, r4⟩
        · have := heap_setCell_same w' bx 0 _ 72 (.pointer (some ⟨b', 0, none⟩)) HX'.out
          simpa using this
        · have h2 := K1.out.stay (stay_var (r := .pointer (some ⟨b', 0, none⟩)) HX'.out)
          have e1 : n + (i + 1) = n + i + 1 := by omega
          rw [e1, up_succ]
          simpa using h2
    · have h1 : decide ((i : Int) < (I : Int)) = false := by simp; omega
      obtain rfl : i = I := by omega
      go_wp2_with fail
      refine bodyPost_end (results_none rfl _ _ _) rfl ?_
      exact ⟨rfl, _, G1.out, G2.out, G3.out⟩


set_option maxRecDepth 100000 in
set_option maxHeartbeats 800000 in
theorem clos_w5 (bs bf bx pv : Nat) (F E V : Int) (I : Nat) (u : Value) (w : World) (n : Nat) (xs : List Int)
    (hs : w.heap[bs]? = some (.cells #[.int .u8 5, .int .i64 F, .int .i64 (I : Int), .int .i64 E, .int .i64 V] 29 (0, 0)))
    (hf : w.heap[bf]? = some (.cells #[.pointer (some ⟨pv, 0, none⟩)] 72 (0, 0)))
    (hx : w.heap[bx]? = some (.cells #[u] 72 (0, 0))) (hne : bs ≠ bx) (hl : IsList w (.pointer (some ⟨pv, 0, none⟩)) n xs) (hn : n + I < 33554431) :
    Calls Try.prog 56 #[.pointer (some ⟨bs, 0, none⟩), .pointer (some ⟨bf, 0, none⟩), .pointer (some ⟨bx, 0, none⟩)] w fun e w' => CPost w bx (n + I) ((up I V).reverse ++ xs) e w' := by
  have s0 := cell_at (j := 0) hs rfl
  have f0 := cell_at (j := 0) hf rfl
  have hx0 := cell_at (j := 0) hx rfl
  have hx1 := frozen_of_row _ _ 0 _ _ hx
  have HX := Lib.hid hx; clear hx
  have HS := Lib.hid hs; clear hs
  have HL := Lib.hid hl; clear hl hf
  go_enter Try.func56, Try.ntmps56
  go_wp2_with fail
  have hX1 : (w.setCell ⟨bx, 0, none⟩ (.pointer (some ⟨pv, 0, none⟩))).heap[bx]? = some (.cells #[.pointer (some ⟨pv, 0, none⟩)] 72 (0, 0)) := heap_setCell_same w bx 0 _ 72 _ HX.out
  have hX2 : But (· = bx) w (w.setCell ⟨bx, 0, none⟩ (.pointer (some ⟨pv, 0, none⟩))) := But.setCell (S := (· = bx)) (But.refl _ w) (p := ⟨bx, 0, none⟩) (.inl rfl) _
  have hX3 := HL.out.stay (stay_var (r := .pointer (some ⟨pv, 0, none⟩)) HX.out)
  generalize w.setCell ⟨bx, 0, none⟩ (.pointer (some ⟨pv, 0, none⟩)) = W at hX1 hX2 hX3 ⊢
  have HX1 := Lib.hid hX1
  have HX2 := Lib.hid hX2
  have HX3 := Lib.hid hX3
  clear hX1 hX2 hX3 s0 f0 hx0 hx1
  go_loopg [4] I (fun k p wr => ∃ (i pr : Nat), p = .int .i64 (i : Int) ∧ i + k = I ∧ wr.heap[bx]? = some (.cells #[.pointer (some ⟨pr, 0, none⟩)] 72 (0, 0)) ∧ IsList wr (.pointer (some ⟨pr, 0, none⟩)) (n + i) ((up i V).reverse ++ xs) ∧ But (· = bx) w wr)
  case atStart => exact ⟨0, pv, rfl, by omega, HX1.out, by simpa [up_zero] using HX3.out, HX2.out⟩
  case round =>
    clear HX1 HX2 HX3 W
    obtain ⟨i, pr, rfl, hik, g1, g2, g3⟩ := hrel
    have hs1 := g3.at HS.out hne
    have s2 := cell_at (j := 2) hs1 rfl
    have s4 := cell_at (j := 4) hs1 rfl
    have x0 := cell_at (j := 0) g1 rfl
    have G1 := Lib.hid g1
    have G2 := Lib.hid g2
    have G3 := Lib.hid g3
    clear g1 g2 g3 hs1
    by_cases hlt : i < I
    · have h1 : decide ((i : Int) < (I : Int)) = true := by simp; omega
      have hw1 : IntKind.i64.wrap ((i : Int) + 1) = (i : Int) + 1 := by rw [IntKind.wrap_i64]; omega
      have HC := Lib.hid (prepend_list (wrap64 (V + i)) G2.out (by omega))
      go_wp2_with fail
      refine HC.out.mono ?_
      rintro e w' ⟨r, rfl, k1, k2⟩
      have K1 := Lib.hid k1
      have hx' : w'.heap[bx]? = some (.cells #[.pointer (some ⟨pr, 0, none⟩)] 72 (0, 0)) := (But.of_below (S := fun _ => False) k2).at G1.out id
      have K2 := Lib.hid (G3.out.trans (But.of_below k2))
      obtain ⟨b', d', o', rfl, _⟩ := k1
      have hx0 := cell_at (j := 0) hx' rfl
      have hx1 := frozen_of_row _ _ 0 _ _ hx'
      have HX' := Lib.hid hx'
      clear hx' k2 s2 s4 x0 HC
      go_wp2_with fail
      go_roundg (gk - 1)
      case measure => omega
      case rel =>
        obtain ⟨_, r1, r2, r3, r4⟩ := cpost_end HX'.out K1.out K2.out
        refine ⟨i + 1, b', rfl, by omega, ?_, ?_, r4⟩
        · have := heap_setCell_same w' bx 0 _ 72 (.pointer (some ⟨b', 0, none⟩)) HX'.out
          simpa using this
        · have h2 := K1.out.stay (stay_var (r := .pointer (some ⟨b', 0, none⟩)) HX'.out)
          have e1 : n + (i + 1) = n + i + 1 := by omega
          rw [e1, up_succ]
          simpa using h2
    · have h1 : decide ((i : Int) < (I : Int)) = false := by simp; omega
      obtain rfl : i = I := by omega
      go_wp2_with fail
      refine bodyPost_end (results_none rfl _ _ _) rfl ?_
      exact ⟨rfl, _, G1.out, G2.out, G3.out⟩

end Go.Proofs.Ytnahipfdnadccaa
