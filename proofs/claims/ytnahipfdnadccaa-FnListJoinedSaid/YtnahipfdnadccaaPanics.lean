/- A list's set and slice that panic: where the place, or an end, is not in the list; they change nothing. -/
import Derived.Test.YtnahipfdnadccaaListB
namespace Go.Proofs.Ytnahipfdnadccaa
open Go.RowKit

/-- a panic with a text, and nothing has changed -/
def Threw (w : World) (e : Ending) (w' : World) : Prop := w' = w ∧ ∃ v, e = .panicked [{ v := .iface 9 v, recovered := false }]

set_option maxRecDepth 100000 in
set_option maxHeartbeats 400000 in
theorem set_panics_w (b : Nat) (s i x : Int) (w : World) (hc2 : w.cell? ⟨b, 2, none⟩ = some (.int .i64 s)) (hi : i < 0 ∨ s ≤ i) :
    Calls Try.prog 68 #[.pointer (some ⟨b, 0, none⟩), .int .i64 i, .int .i64 x, .bool false] w (Threw w) := by
  by_cases h0 : i < 0
  · have h1 : decide (i < 0) = true := by simp [h0]
    clear hi
    go_enter Try.func68, Try.ntmps68
    go_wp2_with fail
    exact ⟨rfl, rfl, _, rfl⟩
  · have h1 : decide (i < 0) = false := by simp [h0]
    have h2 : decide (s ≤ i) = true := by simp; omega
    clear hi
    go_enter Try.func68, Try.ntmps68
    go_wp2_with fail
    exact ⟨rfl, rfl, _, rfl⟩

set_option maxRecDepth 100000 in
set_option maxHeartbeats 400000 in
theorem slice_panics_w (b : Nat) (s x e : Int) (w : World) (hc2 : w.cell? ⟨b, 2, none⟩ = some (.int .i64 s)) (hi : x < 0 ∨ s < x ∨ e < 0 ∨ s < e ∨ e < x) :
    Calls Try.prog 69 #[.pointer (some ⟨b, 0, none⟩), .int .i64 x, .int .i64 e, .bool false] w (Threw w) := by
  by_cases h0 : x < 0 ∨ s < x
  · by_cases h0' : x < 0
    · have h1 : decide (x < 0) = true := by simp [h0']
      clear hi h0
      go_enter Try.func69, Try.ntmps69
      go_wp2_with fail
      exact ⟨rfl, rfl, _, rfl⟩
    · have h1 : decide (x < 0) = false := by simp [h0']
      have h2 : decide (s < x) = true := by simp; omega
      clear hi h0
      go_enter Try.func69, Try.ntmps69
      go_wp2_with fail
      exact ⟨rfl, rfl, _, rfl⟩
  · have h1 : decide (x < 0) = false := by simp; omega
    have h2 : decide (s < x) = false := by simp; omega
    by_cases h3 : e < 0 ∨ s < e
    · by_cases h3' : e < 0
      · have h5 : decide (e < 0) = true := by simp [h3']
        clear hi h0 h3
        go_enter Try.func69, Try.ntmps69
        go_wp2_with fail
        exact ⟨rfl, rfl, _, rfl⟩
      · have h5 : decide (e < 0) = false := by simp [h3']
        have h6 : decide (s < e) = true := by simp; omega
        clear hi h0 h3
        go_enter Try.func69, Try.ntmps69
        go_wp2_with fail
        exact ⟨rfl, rfl, _, rfl⟩
    · have h5 : decide (e < 0) = false := by simp; omega
      have h6 : decide (s < e) = false := by simp; omega
      have h7 : decide (e < x) = true := by simp; omega
      clear hi h0 h3
      go_enter Try.func69, Try.ntmps69
      go_wp2_with fail
      exact ⟨rfl, rfl, _, rfl⟩

theorem set_panics {w : World} {v : Value} {n : Nat} {xs : List Int} (i x : Int) (h : IsList w v n xs) (hi : i < 0 ∨ (xs.length : Int) ≤ i) :
    Calls Try.prog 59 #[v, .int .i64 i, .int .i64 x] w (Threw w) := by
  obtain ⟨b, d, o, rfl, p, hblk, hrest⟩ := h
  obtain ⟨hc0, hc1, hc2⟩ := head_cells hblk
  exact Set_w _ _ _ _ _ (set_panics_w b _ i x w hc2 hi) (fun e w' h => .inr ⟨_, h.2.choose_spec⟩)

theorem slice_panics {w : World} {v : Value} {n : Nat} {xs : List Int} (x e : Int) (h : IsList w v n xs) (hi : x < 0 ∨ (xs.length : Int) < x ∨ e < 0 ∨ (xs.length : Int) < e ∨ e < x) :
    Calls Try.prog 60 #[v, .int .i64 x, .int .i64 e] w (Threw w) := by
  obtain ⟨b, d, o, rfl, p, hblk, hrest⟩ := h
  obtain ⟨hc0, hc1, hc2⟩ := head_cells hblk
  exact Slice_w _ _ _ _ _ (slice_panics_w b _ x e w hc2 hi) (fun e w' h => .inr ⟨_, h.2.choose_spec⟩)

end Go.Proofs.Ytnahipfdnadccaa
