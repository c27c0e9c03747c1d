/- The row of the law FnMapWalk. Conditions of this row: none (its domain is empty). -/
import Derived.Test.YtpkndcmgialgcaaRows
import Derived.Test.YtpkndcmgialgcaaMWlk
import Derived.Test.YtpkndcmgialgcaaOpn2
import Derived.ProofKit
namespace Go.Proofs.Ytpkndcmgialgcaa
open Go.ChangeShapes Go.WideShapes Go.ChangeAt Go.RowKit

set_option maxRecDepth 100000 in
theorem mwlk_lifted (os : Os) (started : os.Started) (H : Type) (enc : TypeId × Value → H) :
    ReturnsInHanded {} Try.checked os 8 .any (Rows.fnMapWalkSpec.pre6 enc Try.prog Try.f8 Rows.fnMapWalkRow.domain false) (Rows.fnMapWalkSpec.post enc Try.prog Try.f8 false true false false) := by
  refine returnsInHanded_of_change_shaped (C := Try.checked) own1 started (by kernel_rfl) Try.func8
    (ChangeSpec.witness6 (enc := enc) (C := Try.checked) false ⟨#[], #[av 0 0 0, .slice none 0 0, .int .u8 0, .int .u8 0], []⟩ 8 (by kernel_rfl) (by kernel_rfl) (by kernel_rfl) (by kernel_rfl)) ?_
  intro W base args ds gs before hval0 hW hcnd _ hsh _
  have hval : ∀ (j : Nat) t v, Try.f8.params[j]? = some t → args[j]? = some v → Value.okWide Try.prog W .any base t v := hval0
  have hW' := hW
  obtain ⟨p, q, hA0, hV, rfl, hfz, hnd⟩ := hW
  have hA : DataW.TrodAll enc Try.prog W 0 (fun _ => true) true Try.f8.params.toList args.toList ds p := hA0
  rw [Try.params8] at hA hval
  obtain ⟨v0, v1, v2, v3, d0, d1, d2, d3, p0, p1, p2, p3, rfl, rfl, rfl, h0, h1, h2, h3⟩ := trodAll_four hA
  obtain ⟨rfl, rfl⟩ := trodVars_none hV
  obtain ⟨mo0, mu0, sh0, rfl, hmo0, hsh0⟩ := hash_open (hval 0 24 v0 rfl rfl) h0
  obtain ⟨steps, hs, hwf⟩ := stp_open (hval 1 25 v1 rfl rfl) h1
  obtain ⟨c2, rfl, rfl, rfl, wc2⟩ := open_int Try.underlying5 (hval 2 5 v2 rfl rfl) h2
  obtain ⟨c3, rfl, rfl, rfl, wc3⟩ := open_int Try.underlying5 (hval 3 5 v3 rfl rfl) h3
  clear hA0 hval0
  simp only [List.append_nil] at hW'
  have hlt : ∀ x ∈ p0 ++ p1, x.block < W.heap.size := fun x hx => by simpa using hW'.lt x (by simpa using hx)
  refine (mwlk_w mo0 mu0 sh0 hmo0 hsh0 v1 steps hwf c2 (wf_u8 wc2).1 (wf_u8 wc2).2 c3 (wf_u8 wc3).1 (wf_u8 wc3).2 W hs).mono fun e W' ⟨he, hB⟩ => ?_
  subst he
  have hM := trodAll_mk4 (Below.trod laidOut1 (by kernel_rfl) (of_decide_eq_true (by kernel_rfl)) h0 hB (fun x hx => hlt x (by simp [hx]))) (Below.trod laidOut1 (by kernel_rfl) (of_decide_eq_true (by kernel_rfl)) h1 hB (fun x hx => hlt x (by simp [hx]))) (shut_int Try.underlying5 wc2) (shut_int Try.underlying5 wc3)
  simp only [List.append_nil] at hM
  exact ⟨_, rfl, _, _, _, [], p0 ++ p1, [], hW', trodAll_mk1 (shut_bool Try.underlying4 _), hM, rfl, hB.frame _, fun h => by cases h⟩

theorem mwlk_holds : Rows.FnMapWalkSaid :=
  OpenClaim.holds_of_wide 8 Try.f8 rfl rfl rfl rfl rfl rfl rfl ⟨rfl, rfl, rfl, rfl, rfl⟩ rfl rfl rfl rfl rfl (by kernel_rfl) Try.func8 (by kernel_rfl)
    (of_decide_eq_true (by kernel_rfl)) (by unfold Func.isWrapper; first | (rw [if_pos (by decide +kernel)]; kernel_rfl) | (rw [if_neg (by decide +kernel)]; exact ⟨rfl, rfl⟩))
    (fun os started H enc _ => mwlk_lifted os started H enc)

end Go.Proofs.Ytpkndcmgialgcaa
