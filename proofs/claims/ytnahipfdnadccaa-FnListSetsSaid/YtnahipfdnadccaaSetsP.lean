/- The law FnListSets: what its steps make; slices.Contains; an own row that is written. Conditions of this file: none. -/
import Derived.Test.YtnahipfdnadccaaSpecT
namespace Go.Proofs.Ytnahipfdnadccaa
open Go.RowKit

def setW (n : Nat) (f : Nat → Nat) (g : Nat → Int) : Nat → List Int
  | 0 => up n (-3)
  | j + 1 => (setW n f g j).set (f j) (g j)
def setS (n : Nat) (f : Nat → Nat) (g : Nat → Int) : Nat → List Stp
  | 0 => [⟨4, 0, n, 0, -3⟩]
  | j + 1 => setS n f g j ++ [⟨2, (j : Int) + 1, f j, 0, g j⟩]

theorem setS_len (n : Nat) (f : Nat → Nat) (g : Nat → Int) : ∀ j, (setS n f g j).length = j + 1
  | 0 => rfl
  | j + 1 => by simp [setS, setS_len n f g j]
theorem setW_len (n : Nat) (f : Nat → Nat) (g : Nat → Int) : ∀ j, (setW n f g j).length = n
  | 0 => by simp [setW, up]
  | j + 1 => by simp [setW, setW_len n f g j]

theorem setRun (n : Nat) (f : Nat → Nat) (g : Nat → Int) (hn : n ≤ 1500) : ∀ j, (∀ i, i < j → f i < n) →
    (versRun (setS n f g j) ([[]], [])).1[j + 1]? = some (setW n f g j) ∧ (versRun (setS n f g j) ([[]], [])).2 = List.replicate (j + 1) false
  | 0, _ => by
    have h : Stp.make ⟨4, 0, n, 0, -3⟩ [[]] = (up n (-3), false) := by
      unfold Stp.make
      rw [if_pos (by simp [Stp.ok]; omega)]
      rfl
    simp only [setS, versRun, h]
    exact ⟨rfl, rfl⟩
  | j + 1, hf => by
    obtain ⟨h1, h2⟩ := setRun n f g hn j (fun i hi => hf i (by omega))
    have hl := versRun_len (setS n f g j) ([[]], [])
    rw [setS_len] at hl
    simp only [List.length_cons, List.length_nil] at hl
    have hfj := hf j (by omega)
    have hwl := setW_len n f g j
    have hm : Stp.make ⟨2, (j : Int) + 1, f j, 0, g j⟩ (versRun (setS n f g j) ([[]], [])).1 = ((setW n f g j).set (f j) (g j), false) := by
      unfold Stp.make
      rw [if_pos (by rw [hl]; simp [Stp.ok]; omega)]
      have e : ((j : Int) + 1).toNat = j + 1 := by omega
      have : (versRun (setS n f g j) ([[]], [])).1.getD ((j : Int) + 1).toNat [] = setW n f g j := by rw [e]; simp [List.getD, h1]
      simp only [this]
      have hs : stepOf (setW n f g j) 2 (f j) 0 (g j) = some ((setW n f g j).set (f j) (g j)) := by
        unfold stepOf
        rw [if_neg (by decide), if_neg (by decide), if_pos rfl, if_pos (by rw [hwl]; omega)]
        simp
      rw [hs]
    rw [setS, versRun_snoc]
    simp only [hm]
    refine ⟨?_, ?_⟩
    · rw [List.getElem?_append_right (by omega), show j + 1 + 1 - (versRun (setS n f g j) ([[]], [])).1.length = 0 by omega]
      rfl
    · rw [h2, show List.replicate (j + 1 + 1) false = List.replicate (j + 1) false ++ [false] from List.replicate_succ']

set_option maxRecDepth 100000 in
set_option maxHeartbeats 800000 in
theorem index_w (g o k cap : Nat) (w : World) (hk : k ≤ 1000000) (hc : ∀ i, i < k → w.cell? ⟨g, o + i, none⟩ = some (.bool false)) :
    Calls Try.prog 31 #[.slice (some ⟨g, o, none⟩) k cap, .bool true] w fun e w' => e = .returned (.int .i64 (-1)) ∧ w' = w := by
  have HC := Lib.hid hc
  have HK := Lib.hid hk
  clear hc hk
  go_enter Try.func31, Try.ntmps31
  go_wp2_with fail
  go_loopg [8] k (fun m i wr => ∃ j : Nat, j + m = k ∧ i = .int .i64 (j : Int) ∧ wr = w)
  case atStart => exact ⟨0, by omega, rfl, rfl⟩
  case round =>
    obtain ⟨j, hjm, rfl, rfl⟩ := hrel
    have hw1 : IntKind.i64.wrap ((j : Int) + 1) = (j : Int) + 1 := by have := HK.out; rw [IntKind.wrap_i64]; omega
    by_cases hlt : j < k
    · have h1 : decide ((j : Int) < (k : Int)) = true := by simp; omega
      have hcj := HC.out j hlt
      go_wp2_with fail
      go_roundg (gk - 1)
      case measure => omega
      case rel => exact ⟨j + 1, by omega, rfl, rfl⟩
    · have h1 : decide ((j : Int) < (k : Int)) = false := by simp; omega
      go_wp2_with fail
      go_ret
      exact ⟨rfl, rfl⟩

set_option maxRecDepth 100000 in
set_option maxHeartbeats 800000 in
theorem contains_w (g o k cap : Nat) (w : World) (hk : k ≤ 1000000) (hc : ∀ i, i < k → w.cell? ⟨g, o + i, none⟩ = some (.bool false)) :
    Calls Try.prog 19 #[.slice (some ⟨g, o, none⟩) k cap, .bool true] w fun e w' => e = .returned (.bool false) ∧ w' = w := by
  have HI := Lib.hid (index_w g o k cap w hk hc)
  clear hc hk
  go_enter Try.func19, Try.ntmps19
  go_wp2_with fail
  refine HI.out.mono ?_
  rintro e w' ⟨rfl, rfl⟩
  go_wp2_with fail
  go_ret
  exact ⟨rfl, rfl⟩

theorem grown_set (w : World) (g i : Nat) (v : Value) : w.grownBy (w.setCell ⟨g, i, none⟩ v) (some g) :=
  ⟨rfl, rfl, rfl, by simp [World.setCell], fun k _ hne => Below.heap_setCell _ _ _ _ (fun e => hne (by rw [e]))⟩

/-- an own row, one item of it written -/
theorem own_set {w : World} {B n g cap r : Nat} {xs : List Int} {v : Int} (h : w.ownsRow B 2 1 (.slice (some ⟨g, 0, none⟩) n cap) n (xs.map (Value.int .i64))) (_hr : r < n) :
    (w.setCell ⟨g, r, none⟩ (.int .i64 v)).ownsRow B 2 1 (.slice (some ⟨g, 0, none⟩) n cap) n ((xs.set r v).map (Value.int .i64)) := by
  refine ⟨by simpa using h.1, ?_⟩
  rcases h.2 with ⟨h1, _⟩ | ⟨g', cap', cur, h1, h2, h3, h4, h5, h6, h7⟩
  · cases h1
  · simp only [Value.slice.injEq, Option.some.injEq, Addr.mk.injEq, true_and, and_true] at h1
    obtain ⟨rfl, rfl⟩ := h1
    refine .inr ⟨g, cap, _, rfl, h2, heap_setCell_same _ _ _ _ _ _ h3, h4, h5, by rw [Array.size_setIfInBounds]; exact h6, ?_⟩
    rw [Array.toList_setIfInBounds, List.take_set, h7, List.map_set]

end Go.Proofs.Ytnahipfdnadccaa
