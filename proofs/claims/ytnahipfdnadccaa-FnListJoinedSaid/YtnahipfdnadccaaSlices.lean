/- The law FnListSlices: what its steps make. Conditions of this file: none. -/
import Derived.Test.YtnahipfdnadccaaAwake
namespace Go.Proofs.Ytnahipfdnadccaa
open Go.RowKit

theorem up_length (n : Nat) (V : Int) : (up n V).length = n := by simp [up]

theorem make_fine {s : Stp} {vs : List (List Int)} {xs ys : List Int} (h : s.ok vs.length = true) (hx : vs[s.F.toNat]? = some xs) (hs : stepOf xs s.k s.I s.E s.V = some ys) : s.make vs = (ys, false) := by
  unfold Stp.make
  rw [if_pos h]
  have : vs.getD s.F.toNat [] = xs := by simp [List.getD, hx]
  rw [this, hs]

theorem step_slice {xs : List Int} {a b : Nat} {V : Int} (hab : a ≤ b) (hb : b ≤ xs.length) : stepOf xs 3 a b V = some ((xs.drop a).take (b - a)) := by
  unfold stepOf
  rw [if_neg (by decide), if_neg (by decide), if_neg (by decide), if_pos rfl, if_pos (by omega)]
  simp

def sliSteps (n low high i o : Nat) : List Stp := [⟨4, 0, n, 0, 7⟩, ⟨3, 1, low, high, 0⟩, ⟨3, 2, i, o, 0⟩, ⟨3, 1, (low + i : Nat), (low + o : Nat), 0⟩, ⟨3, 1, 0, n, 0⟩, ⟨3, 1, low, low, 0⟩]

theorem sliRun (n low high i o : Nat) (hn : n ≤ 2000) (h1 : low ≤ high) (h2 : high ≤ n) (h3 : i ≤ o) (h4 : o ≤ high - low) :
    versRun (sliSteps n low high i o) ([[]], []) = ([[], up n 7, ((up n 7).drop low).take (high - low), ((up n 7).drop (low + i)).take (o - i), ((up n 7).drop (low + i)).take (o - i), up n 7, []], [false, false, false, false, false, false]) := by
  have hl := up_length n 7
  have m1 : Stp.make ⟨4, 0, n, 0, 7⟩ [[]] = (up n 7, false) := make_fine (xs := []) (by simp [Stp.ok]; omega) rfl rfl
  have m2 : Stp.make ⟨3, 1, low, high, 0⟩ [[], up n 7] = (((up n 7).drop low).take (high - low), false) := make_fine (xs := up n 7) (by simp [Stp.ok]) rfl (step_slice h1 (by omega))
  have hl2 : (((up n 7).drop low).take (high - low)).length = high - low := by simp [hl]; omega
  have e2 : ((((up n 7).drop low).take (high - low)).drop i).take (o - i) = ((up n 7).drop (low + i)).take (o - i) := by
    rw [List.drop_take, List.take_take, List.drop_drop]
    congr 1
    omega
  have m3 : Stp.make ⟨3, 2, i, o, 0⟩ [[], up n 7, ((up n 7).drop low).take (high - low)] = (((up n 7).drop (low + i)).take (o - i), false) :=
    make_fine (xs := ((up n 7).drop low).take (high - low)) (by simp [Stp.ok]) rfl (by rw [← e2]; exact step_slice h3 (by omega))
  have m4 : ∀ x y : List Int, Stp.make ⟨3, 1, (low + i : Nat), (low + o : Nat), 0⟩ [[], up n 7, x, y] = (((up n 7).drop (low + i)).take (o - i), false) := fun x y =>
    make_fine (xs := up n 7) (by simp [Stp.ok]) rfl (by rw [step_slice (by omega) (by omega)]; congr 2; omega)
  have m5 : ∀ x y z : List Int, Stp.make ⟨3, 1, 0, n, 0⟩ [[], up n 7, x, y, z] = (up n 7, false) := fun x y z =>
    make_fine (xs := up n 7) (by simp [Stp.ok]) rfl (by
      have := step_slice (xs := up n 7) (a := 0) (b := n) (V := 0) (by omega) (by omega)
      simp only [List.drop_zero, Nat.sub_zero] at this
      rw [show ((0 : Nat) : Int) = 0 from rfl] at this
      rw [this]
      congr 1
      exact List.take_of_length_le (by omega))
  have m6 : ∀ x y z u : List Int, Stp.make ⟨3, 1, low, low, 0⟩ [[], up n 7, x, y, z, u] = ([], false) := fun x y z u =>
    make_fine (xs := up n 7) (by simp [Stp.ok]) rfl (by rw [step_slice (by omega) (by omega)]; simp)
  simp only [sliSteps, versRun, List.nil_append, List.cons_append, m1, m2, m3, m4, m5, m6]

end Go.Proofs.Ytnahipfdnadccaa
