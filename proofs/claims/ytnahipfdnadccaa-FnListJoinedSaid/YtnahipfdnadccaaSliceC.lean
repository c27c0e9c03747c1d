/- A list's slice: all of it, and what any slice answers. -/
import Derived.Test.YtnahipfdnadccaaSliceB
namespace Go.Proofs.Ytnahipfdnadccaa
open Go.RowKit

set_option maxRecDepth 100000 in
set_option maxHeartbeats 400000 in
theorem slice_whole_w (b : Nat) (s : Nat) (w : World) (hc2 : w.cell? ⟨b, 2, none⟩ = some (.int .i64 (s : Int))) :
    Calls Try.prog 69 #[.pointer (some ⟨b, 0, none⟩), .int .i64 0, .int .i64 (s : Int), .bool false] w fun e w' => e = .returned (.pointer (some ⟨b, 0, none⟩)) ∧ w' = w := by
  have h1 : decide ((s : Int) < 0) = false := by simp
  have h2 : decide ((s : Int) < (s : Int)) = false := by simp
  have h3 : ((s : Int) == (s : Int)) = true := by simp
  go_enter Try.func69, Try.ntmps69
  go_wp2_with fail
  go_ret
  exact ⟨rfl, rfl⟩

theorem win_sub {o k m j : Nat} {xs : List Int} {y : Int} (h : win (o + k) ((xs.drop k).take m) j = some y) : win o xs j = some y := by
  unfold win at *
  split at h
  · rename_i hj
    rw [if_pos (by omega)]
    rw [List.getElem?_take] at h
    split at h
    · rw [List.getElem?_drop] at h
      have e : k + (j - (o + k)) = j - o := by omega
      rw [e] at h
      exact h
    · cases h
  · cases h

theorem slice_start {n d o a b : Nat} {xs : List Int} (hD : Dep n d o xs.length) (hab : a ≤ b) (hb : b ≤ xs.length) (hne : ¬ (a = 0 ∧ b = xs.length)) (hn : n < 33554432) :
    ∃ k m, SliceInv n (b - a) ((xs.drop a).take (b - a)) d (o + a) (o + k) ((xs.drop k).take m) := by
  obtain ⟨h1, h2, h3, h4⟩ := hD
  have key : ∀ k m, k + m ≤ xs.length → 1 ≤ m → (1 ≤ b - a → k = a ∧ m = b - a) → (b - a = 0 → m = 1 ∧ (k = a ∨ k + 1 = a)) → SliceInv n (b - a) ((xs.drop a).take (b - a)) d (o + a) (o + k) ((xs.drop k).take m) := by
    intro k m hk hm g1 g2
    have hl : ((xs.drop k).take m).length = m := by simp; omega
    refine ⟨by omega, by omega, h3, fun h6 => by have := h4 h6; omega, ?_, by omega, ?_, ?_, ?_, by simp; omega⟩
    · rcases Nat.lt_or_ge d 6 with h | h
      · exact .inr (.inr h)
      · have := h4 h
        exact .inl (by omega)
    · intro e
      rw [e] at hl
      simp at hl
      omega
    · intro hs
      obtain ⟨rfl, rfl⟩ := g1 hs
      exact ⟨rfl, rfl⟩
    · intro hs
      obtain ⟨e1, e2⟩ := g2 hs
      exact ⟨by omega, by omega⟩
  rcases Nat.eq_zero_or_pos (b - a) with h | h
  · rcases Nat.lt_or_ge a xs.length with hl | hl
    · exact ⟨a, 1, key a 1 (by omega) (by omega) (by omega) (by omega)⟩
    · exact ⟨a - 1, 1, key (a - 1) 1 (by omega) (by omega) (by omega) (by omega)⟩
  · exact ⟨a, b - a, key a (b - a) (by omega) (by omega) (by omega) (by omega)⟩

/-- what a list's slice answers -/
theorem slice_list {w : World} {v : Value} {n a b : Nat} {xs : List Int} (h : IsList w v n xs) (hab : a ≤ b) (hb : b ≤ xs.length) (hn : n < 33554432) (hG : Glob w) :
    Calls Try.prog 60 #[v, .int .i64 (a : Int), .int .i64 (b : Int)] w (ListPost w n ((xs.drop a).take (b - a))) := by
  obtain ⟨p, d, o, rfl, r, hblk, hnode, hD⟩ := h
  by_cases hne : a = 0 ∧ b = xs.length
  · obtain ⟨rfl, rfl⟩ := hne
    obtain ⟨hc0, hc1, hc2⟩ := head_cells hblk
    refine Slice_w _ _ _ _ _ ((slice_whole_w p _ w hc2).mono ?_) (fun e w' h => .inl ⟨_, h.choose_spec.1⟩)
    rintro e w' ⟨rfl, rfl⟩
    have e1 : (xs.drop 0).take (xs.length - 0) = xs := by simp
    rw [e1]
    exact ⟨_, rfl, ⟨p, d, o, rfl, r, hblk, hnode, hD⟩, Below.refl _ _⟩
  · obtain ⟨k, m, hI⟩ := slice_start hD hab hb hne hn
    have h1 := hD.2.1
    have h2 := pow_le8 hD.2.2.1
    refine Slice_w _ _ _ _ _ (slice_w p d r (ty d) o xs.length a b n _ _ (o + k) w hab hb hne (by omega) rfl hn hG hblk ?_ hI) (fun e w' h => .inl ⟨_, h.choose_spec.1⟩)
    exact Node.mono _ _ _ _ hnode fun j y _ hy => win_sub hy

end Go.Proofs.Ytnahipfdnadccaa
