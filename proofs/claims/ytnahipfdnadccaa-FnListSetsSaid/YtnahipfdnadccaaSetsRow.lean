/- The row of the law FnListSets. Conditions of this row: none (its domain is empty). -/
import Derived.Test.YtnahipfdnadccaaRows
import Derived.Test.YtnahipfdnadccaaSets
import Derived.Test.YtnahipfdnadccaaOpen
import Derived.Test.YtnahipfdnadccaaGlob
import Derived.ProofKit
namespace Go.Proofs.Ytnahipfdnadccaa
open Go.ChangeShapes Go.WideShapes Go.ChangeAt Go.RowKit

set_option maxRecDepth 100000 in
theorem sets_lifted (os : Os) (started : os.Started) (H : Type) (enc : TypeId × Value → H) :
    ReturnsInHanded {} Try.checked os 6 .any (Rows.fnListSetsSpec.pre6 enc Try.prog Try.f6 Rows.fnListSetsRow.domain false) (Rows.fnListSetsSpec.post enc Try.prog Try.f6 false true false false) := by
  refine returnsInHanded_of_change_shaped (C := Try.checked) own1 started (by kernel_rfl) Try.func6
    (ChangeSpec.witness6 (enc := enc) (C := Try.checked) false ⟨#[], #[.int .u16 0, .slice none 0 0, .slice none 0 0], []⟩ 8 (by kernel_rfl) (by kernel_rfl) (by kernel_rfl) (by kernel_rfl)) ?_
  intro W base args ds gs before hval0 hW hcnd _ hsh _
  have hval : ∀ (j : Nat) t v, Try.f6.params[j]? = some t → args[j]? = some v → Value.okWide Try.prog W .any base t v := hval0
  have hW' := hW
  obtain ⟨p, q, hA0, hV, rfl, hfz, hnd⟩ := hW
  have hA : DataW.TrodAll enc Try.prog W 0 (fun _ => true) true Try.f6.params.toList args.toList ds p := hA0
  rw [Try.params6] at hA hval
  obtain ⟨v0, v1, v2, d0, d1, d2, p0, p1, p2, rfl, rfl, rfl, h0, h1, h2⟩ := trodAll_three hA
  obtain ⟨rfl, rfl⟩ := trodVars_none hV
  obtain ⟨c, rfl, rfl, rfl, wc⟩ := open_int Try.underlying22 (hval 0 22 v0 rfl rfl) h0
  obtain ⟨ps, hp, hpw⟩ := ints_open Try.underlying38 Try.underlying22 (by kernel_rfl) (hval 1 38 v1 rfl rfl) h1
  obtain ⟨vs, hv, -⟩ := ints_open Try.underlying32 Try.underlying2 (by kernel_rfl) (hval 2 32 v2 rfl rfl) h2
  clear hA0 hval0
  simp only [List.append_nil, List.nil_append] at hW'
  have hlt : ∀ x ∈ p1 ++ p2, x.block < W.heap.size := fun x hx => by simpa using hW'.lt x hx
  refine (sets_w c v1 v2 ps vs W (wf_u16' wc) hp (fun p hp => wf_u16' (hpw p hp)) hv (glob_shape hsh)).mono fun e W' ⟨he, hB⟩ => ?_
  subst he
  exact ⟨_, rfl, _, _, _, [], p1 ++ p2, [], hW', trodAll_mk1 (shut_bool Try.underlying4 _), trodAll_mk3 (shut_int Try.underlying22 wc) (Below.trod laidOut1 (by kernel_rfl) (of_decide_eq_true (by kernel_rfl)) h1 hB (fun x hx => hlt x (List.mem_append_left _ hx))) (Below.trod laidOut1 (by kernel_rfl) (of_decide_eq_true (by kernel_rfl)) h2 hB (fun x hx => hlt x (List.mem_append_right _ hx))), rfl, hB.frame _, fun h => by cases h⟩

theorem sets_holds : Rows.FnListSetsSaid :=
  OpenClaim.holds_of_wide 6 Try.f6 rfl rfl rfl rfl rfl rfl rfl ⟨rfl, rfl, rfl, rfl, rfl⟩ rfl rfl rfl rfl rfl (by kernel_rfl) Try.func6 (by kernel_rfl)
    (of_decide_eq_true (by kernel_rfl)) (by unfold Func.isWrapper; first | (rw [if_pos (by decide +kernel)]; kernel_rfl) | (rw [if_neg (by decide +kernel)]; exact ⟨rfl, rfl⟩))
    (fun os started H enc _ => sets_lifted os started H enc)

end Go.Proofs.Ytnahipfdnadccaa
