/- slices.EqualFunc over slices.Equal, listSame: of slices that read the same. Conditions of this file: none. -/
import Derived.Test.YtnahipfdnadccaaSpecV
namespace Go.Proofs.Ytnahipfdnadccaa
open Go.RowKit

theorem SV.outer {w wr : World} {vs : List (List Int)} {ps : List Bool} {l p : Value} {T : Nat} (h : SV w vs ps l p T wr) (hne : vs ≠ []) : Outer wr l vs ∧ ∀ (i : Nat) (xs : List Int), vs[i]? = some xs → xs.length ≤ T := by
  obtain ⟨us, h1, h2, h3⟩ := h.ownL
  have key : ∀ (i : Nat) (xs : List Int), vs[i]? = some xs → ∃ u, us[i]? = some u ∧ SlS wr u (xs.map (Value.int .i64)) ∧ xs.length ≤ T := fun i xs hi => by
    have hlt : i < us.length := by
      rw [h2]
      exact (List.getElem?_eq_some_iff.1 hi).1
    obtain ⟨ys, h4, h5, h6⟩ := h3 i us[i] (List.getElem?_eq_getElem hlt)
    rw [hi] at h4
    cases h4
    exact ⟨_, List.getElem?_eq_getElem hlt, h5, h6⟩
  refine ⟨?_, fun i xs hi => (key i xs hi).choose_spec.2.2⟩
  rcases h1.2 with ⟨_, h0⟩ | ⟨g, cap, cur, rfl, _⟩
  · exact absurd (List.eq_nil_of_length_eq_zero h0) hne
  · refine ⟨g, cap, rfl, fun i xs hi => ?_⟩
    obtain ⟨u, h4, h5, _⟩ := key i xs hi
    obtain ⟨a, o, c, rfl⟩ := h5.shape
    exact ⟨_, c, own_cell h1 h4, h5.slv⟩

set_option maxRecDepth 100000 in
set_option maxHeartbeats 1600000 in
theorem equalF_w (g1 c1 g2 c2 : Nat) (vs : List (List Int)) (w : World) (hb : ∀ (i : Nat) (xs : List Int), vs[i]? = some xs → xs.length ≤ 1000000) (hl : vs.length ≤ 1000000)
    (h1 : ∀ (i : Nat) (xs : List Int), vs[i]? = some xs → ∃ a c, w.cell? ⟨g1, i, none⟩ = some (.slice a xs.length c) ∧ SlV w (.slice a xs.length c) (xs.map (Value.int .i64)))
    (h2 : ∀ (i : Nat) (xs : List Int), vs[i]? = some xs → ∃ a c, w.cell? ⟨g2, i, none⟩ = some (.slice a xs.length c) ∧ SlV w (.slice a xs.length c) (xs.map (Value.int .i64))) :
    Calls Try.prog 33 #[.slice (some ⟨g1, 0, none⟩) vs.length c1, .slice (some ⟨g2, 0, none⟩) vs.length c2, .func (.func 16) #[] #[]] w fun e w' => e = .returned (.bool true) ∧ Same w w' := by
  have H1 := Lib.hid h1; clear h1
  have H2 := Lib.hid h2; clear h2
  have HB := Lib.hid hb; clear hb
  have HL := Lib.hid hl; clear hl
  go_enter Try.func33, Try.ntmps33
  go_wp2_with fail
  go_loopg [17] vs.length (fun k i wr => ∃ j : Nat, j + k = vs.length ∧ i = .int .i64 (j : Int) ∧ Same w wr)
  case atStart => exact ⟨0, by omega, rfl, Same.refl w⟩
  case round =>
    obtain ⟨j, hjk, rfl, hS⟩ := hrel
    have HS := Lib.hid hS
    clear hS
    have hw1 : IntKind.i64.wrap ((j : Int) + 1) = (j : Int) + 1 := by have := HL.out; rw [IntKind.wrap_i64]; omega
    by_cases hlt : j < vs.length
    · have h1 : decide ((j : Int) < (vs.length : Int)) = true := by simp; omega
      obtain ⟨xs, hx⟩ : ∃ xs, vs[j]? = some xs := ⟨vs[j], List.getElem?_eq_getElem hlt⟩
      obtain ⟨a1, d1, k1, s1⟩ := H1.out j xs hx
      obtain ⟨a2, d2, k2, s2⟩ := H2.out j xs hx
      have q1 := HS.out.cell k1
      have q2 := HS.out.cell k2
      have HE : Hid (Calls Try.prog 16 #[.slice a1 xs.length d1, .slice a2 xs.length d2] wr fun e w' => e = .returned (.bool true) ∧ Same wr w') :=
        (equal_ints (xs := xs) (ys := xs) (s1.same HS.out) (s2.same HS.out) (by have := HB.out j xs hx; omega)).mono fun e w' h => ⟨by rw [h.1, decide_eq_true rfl], h.2⟩
      clear k1 k2 s1 s2 hx
      go_wp2_with fail
      refine HE.out.mono ?_
      rintro e w' ⟨rfl, hs⟩
      have HS2 := Lib.hid (HS.out.trans hs)
      clear hs
      go_wp2_with fail
      go_roundg (gk - 1)
      case measure => omega
      case rel => exact ⟨j + 1, by omega, rfl, HS2.out⟩
    · have h1 : decide ((j : Int) < (vs.length : Int)) = false := by simp; omega
      obtain rfl : j = vs.length := by omega
      go_wp2_with fail
      go_ret
      exact ⟨rfl, HS.out⟩

set_option maxRecDepth 100000 in
set_option maxHeartbeats 800000 in
theorem listSame_w {w : World} {l1 l2 : Value} {vs : List (List Int)} (h1 : Outer w l1 vs) (h2 : Outer w l2 vs) (hb : ∀ (i : Nat) (xs : List Int), vs[i]? = some xs → xs.length ≤ 1000000) (hl : vs.length ≤ 1000000) :
    Calls Try.prog 22 #[l1, l2] w fun e w' => e = .returned (.bool true) ∧ Same w w' := by
  obtain ⟨g1, c1, rfl, k1⟩ := h1
  obtain ⟨g2, c2, rfl, k2⟩ := h2
  have HE := Lib.hid (equalF_w g1 c1 g2 c2 vs w hb hl k1 k2)
  clear hb hl k1 k2
  go_enter Try.func22, Try.ntmps22
  go_wp2_with fail
  refine HE.out.mono ?_
  rintro e w' ⟨rfl, hs⟩
  have HS := Lib.hid hs
  clear hs
  go_wp2_with fail
  go_ret
  exact ⟨rfl, HS.out⟩

end Go.Proofs.Ytnahipfdnadccaa
