/- The law FnListJoined: what its steps make; rows of steps side by side. Conditions of this file: none. -/
import Derived.Test.YtnahipfdnadccaaConcat
import Derived.Test.YtnahipfdnadccaaSpecT
import Derived.Maps.AppendAt
namespace Go.Proofs.Ytnahipfdnadccaa
open Go.RowKit

def joinS (k : Nat) (g : Nat → Int) : Nat → List Stp
  | 0 => []
  | j + 1 => joinS k g j ++ [⟨k, j, 0, 0, g j⟩]
def joinX (k : Nat) (xa : List Int) (g : Nat → Int) : Nat → List Int
  | 0 => xa
  | j + 1 => if k = 0 then joinX k xa g j ++ [g j] else g j :: joinX k xa g j

theorem joinS_len (k : Nat) (g : Nat → Int) : ∀ j, (joinS k g j).length = j
  | 0 => rfl
  | j + 1 => by simp [joinS, joinS_len k g j]

theorem joinRun (k : Nat) (xa : List Int) (g : Nat → Int) (hk : k = 0 ∨ k = 1) : ∀ j, (versRun (joinS k g j) ([xa], [])).1[j]? = some (joinX k xa g j)
  | 0 => rfl
  | j + 1 => by
    have h1 := joinRun k xa g hk j
    have hl := versRun_len (joinS k g j) ([xa], [])
    rw [joinS_len] at hl
    simp only [List.length_cons, List.length_nil] at hl
    have hm : Stp.make ⟨k, j, 0, 0, g j⟩ (versRun (joinS k g j) ([xa], [])).1 = (joinX k xa g (j + 1), false) := by
      unfold Stp.make
      rw [if_pos (by rw [hl]; rcases hk with rfl | rfl <;> simp [Stp.ok] <;> omega)]
      have : (versRun (joinS k g j) ([xa], [])).1.getD (j : Int).toNat [] = joinX k xa g j := by simp [List.getD, h1]
      simp only [this]
      rcases hk with rfl | rfl <;> rfl
    rw [joinS, versRun_snoc]
    simp only [hm]
    rw [List.getElem?_append_right (by omega), show j + 1 - (versRun (joinS k g j) ([xa], [])).1.length = 0 by omega]
    rfl

theorem joinX0 (xa : List Int) (g : Nat → Int) : ∀ j, joinX 0 xa g j = xa ++ (List.range j).map g
  | 0 => by simp [joinX]
  | j + 1 => by simp [joinX, joinX0 xa g j, List.range_succ]
theorem joinX1 (xa : List Int) (g : Nat → Int) : ∀ j, joinX 1 xa g j = ((List.range j).map g).reverse ++ xa
  | 0 => by simp [joinX]
  | j + 1 => by simp [joinX, joinX1 xa g j, List.range_succ]

theorem back_eq (xa bs : List Int) : joinX 0 xa (fun i => bs.getD i 0) bs.length = xa ++ bs := by
  rw [joinX0]
  congr 1
  apply List.ext_getElem?
  intro i
  by_cases hi : i < bs.length
  · simp [hi, List.getD]
  · simp [hi]
theorem ahead_eq (xa bs : List Int) : joinX 1 xa (fun i => bs.getD (bs.length - 1 - i) 0) bs.length = bs ++ xa := by
  rw [joinX1]
  congr 1
  apply List.ext_getElem?
  intro i
  by_cases hi : i < bs.length
  · have h1 : i < ((List.range bs.length).map fun i => bs.getD (bs.length - 1 - i) 0).length := by simpa using hi
    rw [List.getElem?_reverse h1]
    simp only [List.length_map, List.length_range]
    rw [List.getElem?_map, List.getElem?_range (by omega)]
    simp [List.getD, show bs.length - 1 - (bs.length - 1 - i) = i by omega, hi]
  · simp [hi]

theorem StpW.below {w w' : World} {sv : Value} {steps : List Stp} (h : StpW w sv steps) (b : Below w.heap.size w w') : StpW w' sv steps := by
  rcases h with h | ⟨sb, so, cap, h1, h2, h3⟩
  · exact .inl h
  · exact .inr ⟨sb, so, cap, h1, Nat.lt_of_lt_of_le h2 b.size, fun j s hs i u hu => (b.cell h2).trans (h3 j s hs i u hu)⟩

/-- two values' own blocks are two -/
def Two (u v : Value) : Prop := u.ownBlock = none ∨ u.ownBlock ≠ v.ownBlock
theorem Two.symm {u v : Value} (h : Two u v) : Two v u := by
  rcases h with h | h
  · cases hv : v.ownBlock with
    | none => exact .inl hv
    | some b => exact .inr (by rw [h, hv]; simp)
  · exact .inr fun e => h e.symm
theorem Two.new {u u' v : Value} {N : Nat} (h : Two u v) (h' : u'.ownBlock = u.ownBlock ∨ u'.ownBlock = some N) (hv : ∀ k, v.ownBlock = some k → k < N) : Two u' v := by
  rcases h' with e | e
  · unfold Two; rw [e]; exact h
  · refine .inr fun e2 => ?_
    rw [e] at e2
    have := hv N e2.symm
    omega

end Go.Proofs.Ytnahipfdnadccaa
