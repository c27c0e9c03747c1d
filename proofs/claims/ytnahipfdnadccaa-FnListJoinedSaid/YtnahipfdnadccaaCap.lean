/- ListRun's versions with the room of their slices; slices of slices. Conditions of this file: none. -/
import Derived.Test.YtnahipfdnadccaaAwake
namespace Go.Proofs.Ytnahipfdnadccaa
open Go.RowKit

/-- l is a slice of slices that read vs, each with room for what it has -/
def OuterC (w : World) (l : Value) (vs : List (List Int)) : Prop :=
  ∃ g cap, l = .slice (some ⟨g, 0, none⟩) vs.length cap ∧ ∀ (i : Nat) (xs : List Int), vs[i]? = some xs → ∃ a c, w.cell? ⟨g, i, none⟩ = some (.slice a xs.length c) ∧ SlV w (.slice a xs.length c) (xs.map (Value.int .i64)) ∧ xs.length ≤ c

theorem Rows2.outerC {w : World} {B : Nat} {l : Value} {vs : List (List Int)} (h : Rows2 w B l vs) (hne : vs ≠ []) : OuterC w l vs := by
  obtain ⟨us, h1, h2, h3⟩ := h
  rcases h1.2 with ⟨_, h0⟩ | ⟨g, cap, cur, rfl, _⟩
  · exact absurd (List.eq_nil_of_length_eq_zero h0) hne
  · refine ⟨g, cap, rfl, fun i xs hi => ?_⟩
    have hlt : i < us.length := by
      rw [h2]
      exact (List.getElem?_eq_some_iff.1 hi).1
    obtain ⟨ys, h4, h5⟩ := h3 i us[i] (List.getElem?_eq_getElem hlt)
    rw [hi] at h4
    cases h4
    have hs := SlV.of_own h5.1
    obtain ⟨a, c, h6, h7⟩ := hs
    rw [List.length_map] at h6
    have hc := h1.cells (g := g) rfl i us[i] (List.getElem?_eq_getElem hlt)
    rw [Addr.add_lit, Nat.zero_add, h6] at hc
    refine ⟨a, c, hc, ⟨a, c, by rw [List.length_map], h7⟩, ?_⟩
    rcases h5.1.2 with ⟨h8, h9⟩ | ⟨g', cap', cur', h8, _, _, h9, _⟩
    · rw [h9]; exact Nat.zero_le _
    · rw [h6] at h8
      simp only [Value.slice.injEq] at h8
      omega

/-- ListRun, given what NewList makes of the first values -/
theorem listRun_c (w : World) (v0 : Value) (n0 : Nat) (xs0 : List Int) (steps : List Stp) (sb so cap : Nat)
    (hsb : sb < w.heap.size) (hsteps : ∀ j s, steps[j]? = some s → ∀ i u, s.cells[i]? = some u → w.cell? ⟨sb, so + j * 5 + i, none⟩ = some u)
    (hnew : Calls Try.prog 55 #[v0] w (ListPost w n0 xs0)) (hn : n0 + 100000 * (steps.length + 1) < 33554431) (hG : Glob w) :
    Calls Try.prog 15 #[v0, .slice (some ⟨sb, so, none⟩) steps.length cap] w fun e w' => ∃ l p, e = .returned (.tuple #[l, p]) ∧ Below w.heap.size w w' ∧ OuterC w' l (versRun steps ([xs0], [])).1 ∧
      SlV w' p ((versRun steps ([xs0], [])).2.map Value.bool) := by
  have hl := versRun_len steps ([xs0], [])
  have hk : 100000 * steps.length ≤ 100000 * (steps.length + 1) := Nat.mul_le_mul_left _ (by omega)
  have h8 : n0 + 100000 * steps.length < 33554432 := Nat.lt_of_le_of_lt (Nat.add_le_add_left hk _) (Nat.lt_trans hn (by decide))
  have h9 : (versRun steps ([xs0], [])).1.length ≤ 1000000 := by
    rw [hl]
    have h10 : 100000 * (steps.length + 1) < 33554431 := Nat.lt_of_le_of_lt (Nat.le_add_left _ _) hn
    have : steps.length + 1 < 1000 := by
      rcases Nat.lt_or_ge (steps.length + 1) 1000 with h | h
      · exact h
      · exfalso
        have := Nat.mul_le_mul_left 100000 h
        have h11 : 100000 * 1000 < 33554431 := Nat.lt_of_le_of_lt this h10
        exact absurd h11 (by decide)
    simp only [List.length_cons, List.length_nil]
    omega
  refine (run_w w v0 _ (n0 + 100000 * steps.length) (versRun steps ([xs0], [])).1 (versRun steps ([xs0], [])).2 h8 h9 (vers_w w v0 n0 xs0 _ steps sb so cap rfl hsb hsteps hnew hn hG)).mono ?_
  rintro e w' ⟨l, p, rfl, h1, h2, h3⟩
  exact ⟨l, p, rfl, h1, h2.outerC (by intro e; rw [e] at hl; simp at hl), SlV.of_own h3⟩

theorem und32 : Try.prog.underlying 32 = some (.slice (Try.prog.elem 32)) := by kernel_rfl
theorem size32 (w : World) : (sizeOf (Try.prog.elem 32)).run Try.prog w = .ok 1 w := by kernel_rfl

/-- a slice of a slice of whole numbers -/
theorem cut_at {w : World} {a : Option Addr} {n c lo hi : Nat} {cs : List Value} (h : SlV w (.slice a n c) cs) (hc : cs.length ≤ c) (h1 : lo ≤ hi) (h2 : hi ≤ cs.length) :
    ∃ a' c', (∀ w', (Instr.sliceAt 32 (.slice a n c) (some (.int .i64 (lo : Int))) (some (.int .i64 (hi : Int))) none).run Try.prog w' = .ok (.slice a' (hi - lo) c') w') ∧ SlV w (.slice a' (hi - lo) c') ((cs.drop lo).take (hi - lo)) := by
  refine ⟨if c = lo then a else a.map (·.add (lo * 1)), c - lo, fun w' => ?_, ?_⟩
  · rw [run_sliceAt_slice w' 32 _ _ _ _ und32, run_slice_lh w' 32 a n c und32 .i64 .i64 lo hi (by omega) (by omega) (by omega), size32]
    simp only [Result.andThen_ok, sliced, Int.toNat_natCast]
  · obtain ⟨a0, c0, h3, h4⟩ := h
    simp only [Value.slice.injEq] at h3
    obtain ⟨rfl, -, rfl⟩ := h3
    have hl : ((cs.drop lo).take (hi - lo)).length = hi - lo := by simp; omega
    refine ⟨_, _, by rw [hl], fun i v hv => ?_⟩
    rw [List.getElem?_take] at hv
    split at hv
    · rename_i hi'
      rw [List.getElem?_drop] at hv
      obtain ⟨g, o, rfl, hcell⟩ := h4 _ v hv
      refine ⟨g, o + lo, ?_, by rw [Nat.add_assoc]; exact hcell⟩
      rw [if_neg (by omega), Option.map_some, addr_add, Nat.mul_one]
    · cases hv

end Go.Proofs.Ytnahipfdnadccaa
