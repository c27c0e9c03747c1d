/- The row of the law FnSortEmptied. Conditions of this row: none (its domain is empty). -/
import Derived.Test.YtefigjdebakccaaRows
import Derived.Test.YtefigjdebakccaaEmptied
import Derived.Test.YtefigjdebakccaaOpn
import Derived.ProofKit
namespace Go.Proofs.Ytefigjdebakccaa
open Go.ChangeShapes Go.WideShapes Go.ChangeAt Go.RowKit

set_option maxRecDepth 100000 in
theorem lempt_lifted (os : Os) (started : os.Started) (H : Type) (enc : TypeId × Value → H) :
    ReturnsInHanded {} Try.checked os 13 .any (Rows.fnSortEmptiedSpec.pre6 enc Try.prog Try.f13 Rows.fnSortEmptiedRow.domain false) (Rows.fnSortEmptiedSpec.post enc Try.prog Try.f13 false true false false) := by
  refine returnsInHanded_of_change_shaped (C := Try.checked) own1 started (by kernel_rfl) Try.func13
    (ChangeSpec.witness6 (enc := enc) (C := Try.checked) false ⟨#[], #[.int .u8 0, .slice none 0 0, .slice none 0 0], []⟩ 8 (by kernel_rfl) (by kernel_rfl) (by kernel_rfl) (by kernel_rfl)) ?_
  intro W base args ds gs before hval0 hW hcnd _ hsh _
  have hval : ∀ (j : Nat) t v, Try.f13.params[j]? = some t → args[j]? = some v → Value.okWide Try.prog W .any base t v := hval0
  have hW' := hW
  obtain ⟨p, q, hA0, hV, rfl, hfz, hnd⟩ := hW
  have hA : DataW.TrodAll enc Try.prog W 0 (fun _ => true) true Try.f13.params.toList args.toList ds p := hA0
  rw [Try.params13] at hA hval
  obtain ⟨v0, v1, v2, d0, d1, d2, p0, p1, p2, rfl, rfl, rfl, h0, h1, h2⟩ := trodAll_three hA
  obtain ⟨rfl, rfl⟩ := trodVars_none hV
  obtain ⟨c0, rfl, rfl, rfl, wc0⟩ := open_int Try.underlying5 (hval 0 5 v0 rfl rfl) h0
  obtain ⟨xs1, hs1, hw1⟩ := ints_open Try.underlying22 Try.underlying3 (by kernel_rfl) (hval 1 22 v1 rfl rfl) h1
  obtain ⟨xs2, hs2, hw2⟩ := ints_open Try.underlying81 Try.underlying5 (by kernel_rfl) (hval 2 81 v2 rfl rfl) h2
  clear hA0 hval0
  simp only [List.append_nil, List.nil_append] at hW'
  have hlt : ∀ x ∈ p1 ++ p2, x.block < W.heap.size := fun x hx => by simpa using hW'.lt x (by simpa using hx)
  refine (lempt_c c0 (wf_u8 wc0).1 v1 xs1 v2 xs2 (fun t h => wf_u8 (hw2 t h)) W hs1.rdn hs2).mono fun e W' ⟨he, hB⟩ => ?_
  subst he
  have hM := trodAll_mk3 (shut_int Try.underlying5 wc0) (Below.trod laidOut1 (by kernel_rfl) (of_decide_eq_true (by kernel_rfl)) h1 hB (fun x hx => hlt x (by simp [hx]))) (Below.trod laidOut1 (by kernel_rfl) (of_decide_eq_true (by kernel_rfl)) h2 hB (fun x hx => hlt x (by simp [hx])))
  simp only [List.nil_append] at hM
  exact ⟨_, rfl, _, _, _, [], p1 ++ p2, [], hW', trodAll_mk1 (shut_bool Try.underlying4 _), hM, rfl, hB.frame _, fun h => by cases h⟩

theorem lempt_holds : Rows.FnSortEmptiedSaid :=
  OpenClaim.holds_of_wide 13 Try.f13 rfl rfl rfl rfl rfl rfl rfl ⟨rfl, rfl, rfl, rfl, rfl⟩ rfl rfl rfl rfl rfl (by kernel_rfl) Try.func13 (by kernel_rfl)
    (of_decide_eq_true (by kernel_rfl)) (by unfold Func.isWrapper; first | (rw [if_pos (by decide +kernel)]; kernel_rfl) | (rw [if_neg (by decide +kernel)]; exact ⟨rfl, rfl⟩))
    (fun os started H enc _ => lempt_lifted os started H enc)

end Go.Proofs.Ytefigjdebakccaa
