/- math/bits' table holds bytes, in every world of the row's shape. Conditions of this file: none. -/
import Derived.Test.YtnahipfdnadccaaLeafB
import Derived.HandedShaped
namespace Go.Proofs.Ytnahipfdnadccaa
open Go.RowKit

set_option maxRecDepth 100000 in
theorem glob_shape {w : World} (h : w.ShapedOpen Try.prog) : Glob w := by
  obtain ⟨cs, hh, hs, hr⟩ := h.1 0 ((List.replicate 32 (Value.int .u8 0)).toArray) 144 (of_decide_eq_true (by kernel_rfl)) (by kernel_rfl)
  obtain ⟨ts, hts, _, hall⟩ := hr (by kernel_rfl)
  have hc : Try.prog.cellTypes Try.prog.depth 144 = some (List.replicate 32 5) := by kernel_rfl
  rw [hc] at hts
  cases hts
  have hsz : cs.size = 32 := hs
  refine ⟨cs, hh, fun k hk => ?_⟩
  have hk' : k < cs.size := by omega
  obtain ⟨u, hu', hok⟩ := hall k cs[k] (by simp [hk'])
  have : u = 5 := by
    rw [List.length_replicate, Nat.mod_eq_of_lt hk, List.getElem?_replicate_of_lt hk] at hu'
    exact (Option.some.inj hu').symm
  subst this
  rw [Array.getElem?_eq_getElem hk']
  unfold Cell.ok at hok
  rw [Try.underlying5] at hok
  cases hv : cs[k] <;> rw [hv] at hok <;> simp at hok
  case int k' n =>
    obtain ⟨rfl, hh'⟩ := hok
    have h2 : (0 : Int) ≤ n ∧ n ≤ 255 := by
      have e1 : IntKind.u8.min = 0 := by decide
      have e2 : IntKind.u8.max = 255 := by decide
      unfold IntKind.has at hh'
      rw [e1, e2] at hh'
      exact hh'
    exact ⟨n, rfl, h2.1, h2.2⟩

end Go.Proofs.Ytnahipfdnadccaa
