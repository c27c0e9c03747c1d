/- Chains of steps, each out of the version that the one ahead made: what versions hold and what a builder holds. Conditions of this file: none. -/
import Derived.Test.YtnahipfdnadccaaBldD
import Derived.Test.YtnahipfdnadccaaVsn
namespace Go.Proofs.Ytnahipfdnadccaa
open Go.RowKit

/-- each step goes out from the version ahead -/
def chainOf : Nat → List Stp → List Stp
  | _, [] => []
  | i, s :: rest => { s with F := (i : Int) } :: chainOf (i + 1) rest
theorem chainOf_len : ∀ (l : List Stp) (i : Nat), (chainOf i l).length = l.length
  | [], _ => rfl
  | s :: l, i => by simp [chainOf, chainOf_len l (i + 1)]
theorem chainOf_get : ∀ (l : List Stp) (i j : Nat) (s : Stp), l[j]? = some s → (chainOf i l)[j]? = some { s with F := ((i + j : Nat) : Int) }
  | [], i, j, s, h => by simp at h
  | a :: l, i, 0, s, h => by
    simp only [List.getElem?_cons_zero, Option.some.injEq] at h
    subst h
    simp [chainOf]
  | a :: l, i, j + 1, s, h => by
    rw [List.getElem?_cons_succ] at h
    rw [chainOf, List.getElem?_cons_succ, chainOf_get l (i + 1) j s h, show i + 1 + j = i + (j + 1) by omega]
theorem chainOf_F (l : List Stp) (j : Nat) (s : Stp) (h : (chainOf 0 l)[j]? = some s) : s.F = (j : Int) := by
  have hj : j < l.length := by
    have := (List.getElem?_eq_some_iff.1 h).1
    rwa [chainOf_len] at this
  rw [chainOf_get l 0 j _ (List.getElem?_eq_getElem hj)] at h
  simp only [Nat.zero_add, Option.some.injEq] at h
  rw [← h]

theorem versRun_chain (most : Nat) (hm : most ≤ 100000) (C : List Stp) (xs0 : List Int) (hF : ∀ (j : Nat) (s : Stp), C[j]? = some s → s.F = (j : Int)) (hA : AllAsked most C) :
    ∀ j, j ≤ C.length → (versRun (C.take j) ([xs0], [])).1[j]? = some (bldRun (C.take j) (xs0, [])).1 ∧ (versRun (C.take j) ([xs0], [])).2 = (bldRun (C.take j) (xs0, [])).2
  | 0, _ => ⟨rfl, rfl⟩
  | j + 1, h => by
    obtain ⟨h1, h2⟩ := versRun_chain most hm C xs0 hF hA j (by omega)
    obtain ⟨s, hs⟩ : ∃ s, C[j]? = some s := ⟨_, List.getElem?_eq_getElem (by omega)⟩
    have e1 : C.take (j + 1) = C.take j ++ [s] := by rw [List.take_add_one, hs]; rfl
    have hl := versRun_len (C.take j) ([xs0], [])
    rw [List.length_take, Nat.min_eq_left (by omega)] at hl
    simp only [List.length_cons, List.length_nil] at hl
    rw [e1, versRun_snoc, bldRun_snoc]
    generalize versRun (C.take j) ([xs0], []) = R at *
    generalize bldRun (C.take j) (xs0, []) = Q at *
    have hok : s.ok R.1.length = true := by
      have h3 := (hA j s hs).ok hm
      rw [hl, show j + (0 + 1) = j + 1 by omega]
      exact h3
    have hget : R.1.getD s.F.toNat [] = Q.1 := by rw [hF j s hs, Int.toNat_natCast]; simp [List.getD, h1]
    have hmk : s.make R.1 = bldStep Q.1 s := by
      unfold Stp.make bldStep
      rw [if_pos hok, hget]
      cases stepOf Q.1 s.k s.I s.E s.V <;> rfl
    refine ⟨?_, by simp only [hmk, h2]⟩
    simp only [hmk]
    rw [List.getElem?_append_right (by omega), show j + 1 - R.1.length = 0 by omega]
    rfl

theorem StpV.of_own {w : World} {B n : Nat} {e : TypeId} {v : Value} {steps : List Stp} (h : w.ownsRow B e 5 v n (steps.flatMap Stp.cells)) (hn : n = steps.length) : StpV w v steps := by
  subst hn
  rcases h.2 with ⟨h1, h2⟩ | ⟨g, cap, cur, h1, h2, h3, _⟩
  · have h0 := List.eq_nil_of_length_eq_zero h2
    subst h0
    exact ⟨none, 0, h1, fun j s hs => by simp at hs⟩
  · refine ⟨some ⟨g, 0, none⟩, cap, h1, fun j s hs => ⟨g, 0, rfl, fun i u hu => ?_⟩⟩
    have h4 := h.cells (g := g) (by rw [h1]; rfl) (j * 5 + i) u (flat_get steps j s hs i u hu)
    rw [Addr.add_lit] at h4
    rw [Nat.add_assoc]
    exact h4
theorem info42 : (Try.prog.info? 42).map (fun i => (i.zero, i.size, i.bytes)) = some (some (.agg #[.int .u8 0, .int .i64 0, .int .i64 0, .int .i64 0, .int .i64 0]), 5, 40) := by kernel_rfl

end Go.Proofs.Ytnahipfdnadccaa
