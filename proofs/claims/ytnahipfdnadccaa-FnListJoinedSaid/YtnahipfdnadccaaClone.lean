/- slices.Clone; ListRun's versions, nil where they have nothing. Conditions of this file: none. -/
import Derived.Test.YtnahipfdnadccaaDoP
namespace Go.Proofs.Ytnahipfdnadccaa
open Go.RowKit

/-- l is a slice of slices that read vs, each nil if it lies nowhere -/
def OuterN (w : World) (l : Value) (vs : List (List Int)) : Prop :=
  ∃ g cap, l = .slice (some ⟨g, 0, none⟩) vs.length cap ∧ ∀ (i : Nat) (xs : List Int), vs[i]? = some xs → ∃ a c, w.cell? ⟨g, i, none⟩ = some (.slice a xs.length c) ∧ SlN w (.slice a xs.length c) (xs.map (Value.int .i64))

theorem Rows2.outerN {w : World} {B : Nat} {l : Value} {vs : List (List Int)} (h : Rows2 w B l vs) (hne : vs ≠ []) : OuterN w l vs := by
  obtain ⟨us, h1, h2, h3⟩ := h
  rcases h1.2 with ⟨_, h0⟩ | ⟨g, cap, cur, rfl, _⟩
  · exact absurd (List.eq_nil_of_length_eq_zero h0) hne
  · refine ⟨g, cap, rfl, fun i xs hi => ?_⟩
    have hlt : i < us.length := by
      rw [h2]
      exact (List.getElem?_eq_some_iff.1 hi).1
    obtain ⟨ys, h4, h5⟩ := h3 i us[i] (List.getElem?_eq_getElem hlt)
    rw [hi] at h4
    cases h4
    have hs := SlV.of_own h5.1
    obtain ⟨a, c, h6, h7⟩ := hs
    rw [List.length_map] at h6
    have hc := h1.cells (g := g) rfl i us[i] (List.getElem?_eq_getElem hlt)
    rw [Addr.add_lit, Nat.zero_add, h6] at hc
    refine ⟨a, c, hc, a, c, by rw [List.length_map], fun ha => ?_, h7⟩
    rcases h5.1.2 with ⟨h8, h9⟩ | ⟨g', cap', cur', h8, _⟩
    · rw [h6] at h8
      simp only [Value.slice.injEq] at h8
      exact h8.2.2
    · rw [h6, ha] at h8
      cases h8

/-- ListRun, given what NewList makes of the first values -/
theorem listRun_n (w : World) (v0 : Value) (n0 : Nat) (xs0 : List Int) (steps : List Stp) (sb so cap : Nat)
    (hsb : sb < w.heap.size) (hsteps : ∀ j s, steps[j]? = some s → ∀ i u, s.cells[i]? = some u → w.cell? ⟨sb, so + j * 5 + i, none⟩ = some u)
    (hnew : Calls Try.prog 55 #[v0] w (ListPost w n0 xs0)) (hn : n0 + 100000 * (steps.length + 1) < 33554431) (hG : Glob w) :
    Calls Try.prog 15 #[v0, .slice (some ⟨sb, so, none⟩) steps.length cap] w fun e w' => ∃ l p, e = .returned (.tuple #[l, p]) ∧ Below w.heap.size w w' ∧ OuterN w' l (versRun steps ([xs0], [])).1 ∧
      SlV w' p ((versRun steps ([xs0], [])).2.map Value.bool) := by
  have hl := versRun_len steps ([xs0], [])
  have hk : 100000 * steps.length ≤ 100000 * (steps.length + 1) := Nat.mul_le_mul_left _ (by omega)
  have h8 : n0 + 100000 * steps.length < 33554432 := Nat.lt_of_le_of_lt (Nat.add_le_add_left hk _) (Nat.lt_trans hn (by decide))
  have h9 : (versRun steps ([xs0], [])).1.length ≤ 1000000 := by
    rw [hl]
    have h10 : 100000 * (steps.length + 1) < 33554431 := Nat.lt_of_le_of_lt (Nat.le_add_left _ _) hn
    have : steps.length + 1 < 1000 := by
      rcases Nat.lt_or_ge (steps.length + 1) 1000 with h | h
      · exact h
      · exfalso
        have := Nat.mul_le_mul_left 100000 h
        have h11 : 100000 * 1000 < 33554431 := Nat.lt_of_le_of_lt this h10
        exact absurd h11 (by decide)
    simp only [List.length_cons, List.length_nil]
    omega
  refine (run_w w v0 _ (n0 + 100000 * steps.length) (versRun steps ([xs0], [])).1 (versRun steps ([xs0], [])).2 h8 h9 (vers_w w v0 n0 xs0 _ steps sb so cap rfl hsb hsteps hnew hn hG)).mono ?_
  rintro e w' ⟨l, p, rfl, h1, h2, h3⟩
  exact ⟨l, p, rfl, h1, h2.outerN (by intro e; rw [e] at hl; simp at hl), SlV.of_own h3⟩

theorem clone_news {w : World} {ad : Addr} {xs : List Int} {n cap : Nat} (h : SlN w (.slice (some ad) n cap) (xs.map (Value.int .i64))) :
    ∀ j u, (xs.map (Value.int .i64))[j]? = some u → (w.alloc (.cells #[] 2)).cell? (ad.add j) = some u := fun j u hu => by
  obtain ⟨a, c, h1, _, h2⟩ := h
  obtain ⟨g, o, h3, h4⟩ := h2 j u hu
  simp only [Value.slice.injEq] at h1
  obtain ⟨h1, -⟩ := h1
  rw [h3] at h1
  simp only [Option.some.injEq] at h1
  subst h1
  have hB : Below w.heap.size w (w.alloc (.cells #[] 2)) := (Below.refl _ w).alloc (Nat.le_refl _) _
  rw [Addr.add_lit]
  exact (hB.cell (World.block_lt_of_cell? w _ h4)).trans h4

theorem eq_nil_t (w : World) : Sem.run Try.prog (binOp BinOp.eql 32 (Value.slice none 0 0) (Value.slice none 0 0)) w = .ok (.bool true) w := by kernel_rfl
theorem eq_nil_f (ad : Addr) (n c : Nat) (w : World) : Sem.run Try.prog (binOp BinOp.eql 32 (Value.slice (some ad) n c) (Value.slice none 0 0)) w = .ok (.bool false) w := by kernel_rfl

set_option maxRecDepth 100000 in
set_option maxHeartbeats 800000 in
theorem clone_sl (u : Value) (xs : List Int) (w : World) (hu : SlN w u (xs.map (Value.int .i64))) (hl : xs.length ≤ 2147483647) :
    Calls Try.prog 18 #[u] w fun e w' => ∃ v, e = .returned v ∧ w'.ownsRow w.heap.size 2 1 v xs.length (xs.map (Value.int .i64)) ∧ Below w.heap.size w w' := by
  obtain ⟨i2, hi, hz0, hz1, hz2⟩ := info_parts info2
  have HI := Lib.hid (And.intro hi (And.intro hz0 (And.intro hz1 hz2)))
  clear hi hz0 hz1 hz2
  have HU := Lib.hid hu
  have HL := Lib.hid hl
  obtain ⟨a, cap, rfl, hnil, hc⟩ := hu
  rw [List.length_map] at HU ⊢
  cases a with
  | none =>
    have hx0 : xs = [] := by
      cases xs with
      | nil => rfl
      | cons x r => obtain ⟨g, o, h, _⟩ := hc 0 _ rfl; cases h
    subst hx0
    have hc0 := hnil rfl
    subst hc0
    clear hc hnil hl HL HU HI
    have hq := eq_nil_t
    go_enter Try.func18, Try.ntmps18
    go_wp2_with fail
    go_ret
    exact ⟨_, rfl, World.ownsRow_nil _ _ _ _, Below.refl _ _⟩
  | some ad =>
    have HO : Hid ((w.alloc (.cells #[] 2)).ownsRow w.heap.size 2 1 (.slice (some ⟨w.heap.size, 0, none⟩) 0 0) 0 []) := World.ownsRow_made (base := w.heap.size) (e := 2) (size := 1) w #[] 0 (Nat.le_refl _) (by decide) rfl
    clear hc hnil hl
    have hq := eq_nil_f
    go_enter Try.func18, Try.ntmps18
    go_wp2_with (at_builtin; refine wpList_append_own _ rfl (.tmp 5) (.tmp 6) 32 rfl w.heap.size 2 i2 (.int .i64 0) 1 8 Try.underlying32 HI.out.1 HI.out.2.1 HI.out.2.2.1 HI.out.2.2.2 rfl (by decide) _ _ _ rfl HO.out ad xs.length cap (xs.map (Value.int .i64)) rfl (by simp) (clone_news HU.out) (ints_one xs) (by have := HL.out; unfold maxLen; omega) (by have := HL.out; omega) (by simp) ?_)
    intro v1 w1 hown1 hgrow1 hnil1
    have HB : Hid (Below w.heap.size w w1) := Below.grown ((Below.refl _ w).alloc (Nat.le_refl _) (.cells #[] 2)) hgrow1 (by simp) fun k hk => by simp only [Value.ownBlock, Option.some.injEq] at hk; omega
    have HO1 := Lib.hid hown1
    clear hown1 hgrow1 hnil1
    go_wp2_with fail
    go_ret
    exact ⟨_, rfl, HO1.out, HB.out⟩

end Go.Proofs.Ytnahipfdnadccaa
