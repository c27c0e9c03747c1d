/- The walk over the law FnMapAgain. -/
import Derived.Test.YtpkndcmgialgcaaMEq
namespace Go.Proofs.Ytpkndcmgialgcaa
open Go.RowKit Go.Maps

set_option maxRecDepth 100000 in
set_option maxHeartbeats 3200000 in
theorem magain_w (mo mu sh : Int) (_hmo : 0 ≤ mo) (hsh : 0 ≤ sh) (sv : Value) (steps : List Stp) (w : World) (hs : StpV w sv steps) (hwf : ∀ s ∈ steps, Wf s.K ∧ Wf s.V) :
    Calls Try.prog 9 #[av mo mu sh, sv] w fun e w' => e = .returned (.bool true) ∧ Below w.heap.size w w' := by
  have HS := Lib.hid hs
  have HWF := Lib.hid hwf
  obtain ⟨a, cap, rfl, -⟩ := hs
  have hA : Below w.heap.size w (w.alloc (.cells #[.int .u32 mo, .int .u32 mu, .int .u8 sh] 24)) := (Below.refl _ _).alloc (Nat.le_refl _) _
  have HX := Lib.hid (heap_alloc_last w (.cells #[.int .u32 mo, .int .u32 mu, .int .u8 sh] 24))
  have HA := Lib.hid hA
  have HS2 := Lib.hid (HS.out.below hA)
  clear hwf hA HS
  unfold av
  go_enter Try.func9, Try.ntmps9
  go_upto_region 1 with (fail)
  generalize w.alloc (.cells #[.int .u32 mo, .int .u32 mu, .int .u8 sh] 24) = X at HA HX HS2 ⊢
  obtain ⟨bx, hbx⟩ : ∃ bx, bx = w.heap.size := ⟨_, rfl⟩
  rw [← hbx] at HX ⊢
  clear hbx
  by_cases c1 : 2147483647 < steps.length
  · have d1 : decide ((2147483647 : Int) < (steps.length : Int)) = true := by simp; omega
    go_wp2_with fail
    refine bodyPost_ret (results_tmp rfl _ _ _) rfl ?_
    exact ⟨rfl, HA.out⟩
  have d1 : decide ((2147483647 : Int) < (steps.length : Int)) = false := by simp; omega
  by_cases c2 : 30 < steps.length
  · have d2 : decide ((30 : Int) < (steps.length : Int)) = true := by simp; omega
    go_wp2_with fail
    refine (awake_w _).mono ?_
    rintro e w' ⟨rfl, hb⟩
    have HB : Hid (Below w.heap.size w w') := HA.out.trans (hb.mono HA.out.size)
    clear hb
    go_wp2_with fail
    refine bodyPost_ret (results_tmp rfl _ _ _) rfl ?_
    exact ⟨rfl, HB.out⟩
  have d2 : decide ((30 : Int) < (steps.length : Int)) = false := by simp; omega
  have s0 := cell_at (j := 0) HX.out rfl
  have s1 := cell_at (j := 1) HX.out rfl
  have s2 := cell_at (j := 2) HX.out rfl
  obtain ⟨rt, hrt⟩ : ∃ rt, rt = (decide (0 < mo) && decide (sh < 32)) := ⟨_, rfl⟩
  have HRT := Lib.hid hrt
  have HHR := Lib.hid (hashRight_w mo mu sh X rt hrt)
  clear hrt
  have HL : Hid (steps.length ≤ 30) := by show _ ≤ _; omega
  go_wp2_with fail
  refine HHR.out.mono ?_
  rintro e w1 ⟨rfl, hb1⟩
  have HX1 := Lib.hid (below_at hb1 HX.out)
  have HS1 := Lib.hid (HS2.out.below hb1)
  have HB1 : Hid (Below w.heap.size w w1) := HA.out.trans (hb1.mono HA.out.size)
  clear hb1 HHR s0 s1 s2 HX HS2 HA
  cases rt with
  | false =>
    go_wp2_with fail
    refine (awake_w _).mono ?_
    rintro e w' ⟨rfl, hb⟩
    have HB : Hid (Below w.heap.size w w') := HB1.out.trans (hb.mono HB1.out.size)
    clear hb
    go_wp2_with fail
    refine bodyPost_ret (results_tmp rfl _ _ _) rfl ?_
    exact ⟨rfl, HB.out⟩
  | true =>
    obtain ⟨g1, g2⟩ : 0 < mo ∧ sh < 32 := by
      have := HRT.out.symm
      simpa using this
    have HH := Lib.hid (hash_is (mo := mo) (mu := mu) (sh := sh) (by omega) hsh g2)
    have h0 : (mo == 0) = false := by simp; omega
    have H0 := Lib.hid h0
    have HV := Lib.hid (mapVersions_w (hn mo mu sh) (.slice a steps.length cap) steps 200 3000 w1 HS1.out (by have := HL.out; omega) (by decide) (by decide) HWF.out)
    clear g1 g2 h0
    go_wp2_with fail
    refine HV.out.mono ?_
    rintro e w2 ⟨l, ok, rfl, hb2, hok⟩
    have HOK := Lib.hid hok
    have HX2 := Lib.hid (below_at hb2 HX1.out)
    have HS3 := Lib.hid (HS1.out.below hb2)
    have HB2 : Hid (Below w.heap.size w w2) := HB1.out.trans (hb2.mono HB1.out.size)
    clear hb2 hok HV HX1 HS1 HB1
    cases ok with
    | false =>
      go_wp2_with fail
      refine (awake_w _).mono ?_
      rintro e w' ⟨rfl, hb⟩
      have HB : Hid (Below w.heap.size w w') := HB2.out.trans (hb.mono HB2.out.size)
      clear hb
      go_wp2_with fail
      refine bodyPost_ret (results_tmp rfl _ _ _) rfl ?_
      exact ⟨rfl, HB.out⟩
    | true =>
      clear HOK
      go_upto_region 8 with (fail)
      have HR0 : Hid (Below w2.heap.size w2 w2.drew) := (Below.refl _ w2).drew
      have HC0 : Hid (∀ W, Below w2.heap.size w2 W → W.cell? ⟨bx, 0, none⟩ = some (.int .u32 mo) ∧ W.cell? ⟨bx, 1, none⟩ = some (.int .u32 mu) ∧ W.cell? ⟨bx, 2, none⟩ = some (.int .u8 sh)) := fun W hR => ⟨cell_at (j := 0) (below_at hR HX2.out) rfl, cell_at (j := 1) (below_at hR HX2.out) rfl, cell_at (j := 2) (below_at hR HX2.out) rfl⟩
      refine region_segsR (fun W => Below w2.heap.size w2 W) [([0, 1, 4, 5], [2]), ([], [3]), ([], [6]), ([], [7]), ([], [8]), ([], [9])] (by kernel_rfl) (by intro dst v c a w h; cases dst <;> exact h) (by kernel_rfl) HR0.out ?_
      refine r_segs ?_
      simp only [opsOf, List.getElem?_toArray, List.getElem?_cons_succ, List.getElem?_cons_zero]
      repeat (refine r_read ?_ (by kernel_rfl) ?_ (fun K hK => ?_); rotate_left 1; (intro W hR; obtain ⟨x0, x1, x2⟩ := HC0.out W hR; clear hR; go_simp; try with_reducible rfl); go_simp; refine hK _ ?_; clear hK K)
      refine r_nil1 ?_
      refine r_op rfl (fun K hK => ?_)
      go_simp
      refine (mapTo_w _ steps _ (HS3.out.below HR0.out) (by have := HL.out; omega)).mono ?_
      rintro e w3 ⟨v, rfl, hv, hb3⟩
      have HV3 := Lib.hid hv
      have HB3 : Hid (Below w2.heap.size w2 w3) := Below.undrew hb3
      clear hb3 hv
      refine hK _ _ HB3.out ?_
      clear hK K
      refine r_segs ?_
      simp only [opsOf]
      refine r_nil1 ?_
      refine r_op rfl (fun K hK => ?_)
      go_simp
      refine (run_w (hn mo mu sh) mo mu sh HH.out H0.out v steps w3 HV3.out (by have := HL.out; omega)).mono ?_
      rintro e w4 ⟨r, rfl, hr, hb4⟩
      have HR4 := Lib.hid hr
      clear hr
      have HB4 : Hid (Below w2.heap.size w2 w4) := HB3.out.trans (hb4.mono HB3.out.size)
      clear hb4
      refine hK _ _ HB4.out ?_
      clear hK K
      refine r_segs ?_
      simp only [opsOf]
      refine r_nil1 ?_
      refine r_op rfl (fun K hK => ?_)
      go_simp
      refine (mapTo_w _ steps _ (HS3.out.below HB4.out) (by have := HL.out; omega)).mono ?_
      rintro e w5 ⟨v5, rfl, hv, hb5⟩
      have HV5 := Lib.hid hv
      have HR5 := Lib.hid (HR4.out.below hb5)
      clear hv
      have HB5 : Hid (Below w2.heap.size w2 w5) := HB4.out.trans (hb5.mono HB4.out.size)
      clear hb5
      refine hK _ _ HB5.out ?_
      clear hK K
      refine r_segs ?_
      simp only [opsOf]
      refine r_nil1 ?_
      refine r_op rfl (fun K hK => ?_)
      go_simp
      refine (run_w (hn mo mu sh) mo mu sh HH.out H0.out v5 steps w5 HV5.out (by have := HL.out; omega)).mono ?_
      rintro e w6 ⟨r6, rfl, hr, hb6⟩
      have HR6 := Lib.hid hr
      have HR7 := Lib.hid (HR5.out.below hb6)
      clear hr
      have HB6 : Hid (Below w2.heap.size w2 w6) := HB5.out.trans (hb6.mono HB5.out.size)
      clear hb6
      refine hK _ _ HB6.out ?_
      clear hK K
      refine r_segs ?_
      simp only [opsOf]
      refine r_nil1 ?_
      refine r_op rfl (fun K hK => ?_)
      go_simp
      refine hK _ _ HB6.out ?_
      clear hK K
      refine r_segs ?_
      simp only [opsOf]
      refine r_nil1 ?_
      refine r_op rfl (fun K hK => ?_)
      go_simp
      refine hK _ _ HB6.out ?_
      clear hK K
      refine r_end ?_
      go_wp2_with fail
      refine (seenEq_w r r6 _ _ _ w6 HR7.out HR6.out (by rw [versM_len]; simp) (by rw [versM_len]; have := HL.out; simp; omega) (fun m hm => (versM_all HWF.out (by have := HL.out; omega) m hm).2.2)).mono ?_
      rintro e w7 ⟨rfl, hb7⟩
      have HB7 : Hid (Below w2.heap.size w2 w7) := HB6.out.trans (hb7.mono HB6.out.size)
      clear hb7
      go_wp2_with fail
      refine (awake_w w7).mono ?_
      rintro e w8 ⟨rfl, hb8⟩
      have HB8 : Hid (Below w2.heap.size w2 w8) := HB7.out.trans (hb8.mono HB7.out.size)
      clear hb8
      go_wp2_with fail
      refine bodyPost_ret (results_tmp rfl _ _ _) rfl ?_
      exact ⟨rfl, HB2.out.trans (HB8.out.mono HB2.out.size)⟩
end Go.Proofs.Ytpkndcmgialgcaa
