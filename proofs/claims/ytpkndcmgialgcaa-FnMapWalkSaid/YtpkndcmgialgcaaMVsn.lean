/- The walk over the law FnMapVersions. -/
import Derived.Test.YtpkndcmgialgcaaMAwk
namespace Go.Proofs.Ytpkndcmgialgcaa
open Go.RowKit Go.Maps

section
variable {h : Int → Nat}
theorem set_wf {m : MS Int Int} (ho : Once m.es) (hw : WfAll m.es) {k v : Int} (hk : Wf k) (hv : Wf v) : WfAll (m.set h k v).es := fun e he => by
  rcases ((MS.set_is h m ho k v).mem e).1 he with rfl | ⟨h1, _⟩
  · exact ⟨hk, hv⟩
  · exact hw e h1
theorem mdel_wf {m : MS Int Int} (hw : WfAll m.es) (k : Int) : WfAll (m.del k).es := fun e he => hw e (List.mem_filter.1 he).1
theorem mkMany_wf {s : Stp} {m : MS Int Int} (ho : Once m.es) (hw : WfAll m.es) : ∀ n, n ≤ 1000000 → WfAll (mkMany h s m n).es
  | 0, _ => hw
  | n + 1, hn => by
    rw [mkMany_succ]
    exact set_wf (mkMany_ok ho n).1 (mkMany_wf ho hw n (by omega)) (wrap_wf _) (wf_nat (by omega))
theorem mkLess_wf {s : Stp} {m : MS Int Int} (hw : WfAll m.es) : ∀ n, WfAll (mkLess s m n).es
  | 0 => hw
  | n + 1 => by
    rw [mkLess_succ]
    exact mdel_wf (mkLess_wf hw n) _
theorem act_wf {s : Stp} {m : MS Int Int} (ho : Once m.es) (hw : WfAll m.es) (hc : s.k = 2 → s.C ≤ 100000) (hk : Wf s.K) (hv : Wf s.V) : WfAll (s.act h m).es := by
  unfold Stp.act
  split
  · exact set_wf ho hw hk hv
  · exact mdel_wf hw _
  · rename_i e
    have := hc e
    exact mkMany_wf ho hw _ (by omega)
  · exact mkLess_wf hw _
def AllWf (vs : List (MS Int Int)) : Prop := ∀ m ∈ vs, WfAll m.es
theorem make_wf {n : Nat} {s : Stp} {vs : List (MS Int Int)} (ho : AllOk n vs) (hv : AllWf vs) (hk : Wf s.K) (hV : Wf s.V) : AllWf (vs ++ [s.make h vs]) := fun m hm => by
  rcases List.mem_append.1 hm with hm | hm
  · exact hv m hm
  · simp only [List.mem_singleton] at hm
    subst hm
    unfold Stp.make
    split
    · rename_i hok
      obtain ⟨h1, h2, h3, h4⟩ := ok_cases hok
      have hi : s.F.toNat < vs.length := by omega
      have e : vs.getD s.F.toNat MS.empty = vs[s.F.toNat] := by rw [List.getD_eq_getElem?_getD, List.getElem?_eq_getElem hi]; rfl
      rw [e]
      exact act_wf (ho _ (List.getElem_mem hi)).1 (hv _ (List.getElem_mem hi)) (fun e => (h4 (by omega)).2) hk hV
    · simp [MS.empty, WfAll]
theorem versM_wf : ∀ (l : List Stp) (n : Nat) (vs : List (MS Int Int)), AllOk n vs → AllWf vs → (∀ s ∈ l, Wf s.K ∧ Wf s.V) → AllWf (versM h l vs)
  | [], n, vs, _, hv, _ => by simpa [versM] using hv
  | s :: l, n, vs, ho, hv, hs => by
    have hk := hs s (by simp)
    exact versM_wf l (n + 1) _ (make_ok (h := h) (s := s) ho) (make_wf (h := h) ho hv hk.1 hk.2) fun s' h' => hs s' (by simp [h'])
end
theorem empty_ok : AllOk 1 [MS.empty] := fun m hm => by
  simp only [List.mem_singleton] at hm
  subst hm
  exact ⟨by simp [MS.empty, Once], by simp [MS.empty]⟩
theorem empty_wf : AllWf [MS.empty] := fun m hm => by
  simp only [List.mem_singleton] at hm
  subst hm
  simp [MS.empty, WfAll]
/-- all that mapSame wants -/
theorem versM_all {h : Int → Nat} {steps : List Stp} (hs : ∀ s ∈ steps, Wf s.K ∧ Wf s.V) (hn : steps.length ≤ 500) : ∀ m ∈ versM h steps [MS.empty], Once m.es ∧ WfAll m.es ∧ m.es.length ≤ 100000000 := fun m hm => by
  have h1 := versM_ok (h := h) steps 1 [MS.empty] empty_ok m hm
  exact ⟨h1.1, versM_wf steps 1 [MS.empty] empty_ok empty_wf hs m hm, by omega⟩

set_option maxRecDepth 100000 in
set_option maxHeartbeats 3200000 in
theorem mvs_w (mo mu sh : Int) (_hmo : 0 ≤ mo) (hsh : 0 ≤ sh) (sv : Value) (steps : List Stp) (w : World) (hs : StpV w sv steps) (hwf : ∀ s ∈ steps, Wf s.K ∧ Wf s.V) :
    Calls Try.prog 6 #[av mo mu sh, sv] w fun e w' => e = .returned (.bool true) ∧ Below w.heap.size w w' := by
  have HS := Lib.hid hs
  have HWF := Lib.hid hwf
  obtain ⟨a, cap, rfl, -⟩ := hs
  have hA : Below w.heap.size w (w.alloc (.cells #[.int .u32 mo, .int .u32 mu, .int .u8 sh] 24)) := (Below.refl _ _).alloc (Nat.le_refl _) _
  have HX := Lib.hid (heap_alloc_last w (.cells #[.int .u32 mo, .int .u32 mu, .int .u8 sh] 24))
  have HA := Lib.hid hA
  have HS2 := Lib.hid (HS.out.below hA)
  clear hwf hA HS
  unfold av
  go_enter Try.func6, Try.ntmps6
  go_upto_region 1 with (fail)
  generalize w.alloc (.cells #[.int .u32 mo, .int .u32 mu, .int .u8 sh] 24) = X at HA HX HS2 ⊢
  obtain ⟨bx, hbx⟩ : ∃ bx, bx = w.heap.size := ⟨_, rfl⟩
  rw [← hbx] at HX ⊢
  clear hbx
  by_cases c1 : 2147483647 < steps.length
  · have d1 : decide ((2147483647 : Int) < (steps.length : Int)) = true := by simp; omega
    go_wp2_with fail
    refine bodyPost_ret (results_tmp rfl _ _ _) rfl ?_
    exact ⟨rfl, HA.out⟩
  have d1 : decide ((2147483647 : Int) < (steps.length : Int)) = false := by simp; omega
  by_cases c2 : 30 < steps.length
  · have d2 : decide ((30 : Int) < (steps.length : Int)) = true := by simp; omega
    go_wp2_with fail
    refine (awake_w _).mono ?_
    rintro e w' ⟨rfl, hb⟩
    have HB : Hid (Below w.heap.size w w') := HA.out.trans (hb.mono HA.out.size)
    clear hb
    go_wp2_with fail
    refine bodyPost_ret (results_tmp rfl _ _ _) rfl ?_
    exact ⟨rfl, HB.out⟩
  have d2 : decide ((30 : Int) < (steps.length : Int)) = false := by simp; omega
  have s0 := cell_at (j := 0) HX.out rfl
  have s1 := cell_at (j := 1) HX.out rfl
  have s2 := cell_at (j := 2) HX.out rfl
  obtain ⟨rt, hrt⟩ : ∃ rt, rt = (decide (0 < mo) && decide (sh < 32)) := ⟨_, rfl⟩
  have HRT := Lib.hid hrt
  have HHR := Lib.hid (hashRight_w mo mu sh X rt hrt)
  clear hrt
  have HL : Hid (steps.length ≤ 30) := by show _ ≤ _; omega
  go_wp2_with fail
  refine HHR.out.mono ?_
  rintro e w1 ⟨rfl, hb1⟩
  have HX1 := Lib.hid (below_at hb1 HX.out)
  have HS1 := Lib.hid (HS2.out.below hb1)
  have HB1 : Hid (Below w.heap.size w w1) := HA.out.trans (hb1.mono HA.out.size)
  clear hb1 HHR s0 s1 s2 HX HS2 HA
  cases rt with
  | false =>
    go_wp2_with fail
    refine (awake_w _).mono ?_
    rintro e w' ⟨rfl, hb⟩
    have HB : Hid (Below w.heap.size w w') := HB1.out.trans (hb.mono HB1.out.size)
    clear hb
    go_wp2_with fail
    refine bodyPost_ret (results_tmp rfl _ _ _) rfl ?_
    exact ⟨rfl, HB.out⟩
  | true =>
    obtain ⟨g1, g2⟩ : 0 < mo ∧ sh < 32 := by
      have := HRT.out.symm
      simpa using this
    have HH := Lib.hid (hash_is (mo := mo) (mu := mu) (sh := sh) (by omega) hsh g2)
    have h0 : (mo == 0) = false := by simp; omega
    have H0 := Lib.hid h0
    have HV := Lib.hid (mapVersions_w (hn mo mu sh) (.slice a steps.length cap) steps 200 3000 w1 HS1.out (by have := HL.out; omega) (by decide) (by decide) HWF.out)
    clear g1 g2 h0
    go_wp2_with fail
    refine HV.out.mono ?_
    rintro e w2 ⟨l, ok, rfl, hb2, hok⟩
    have HOK := Lib.hid hok
    have HX2 := Lib.hid (below_at hb2 HX1.out)
    have HS3 := Lib.hid (HS1.out.below hb2)
    have HB2 : Hid (Below w.heap.size w w2) := HB1.out.trans (hb2.mono HB1.out.size)
    clear hb2 hok HV HX1 HS1 HB1
    cases ok with
    | false =>
      go_wp2_with fail
      refine (awake_w _).mono ?_
      rintro e w' ⟨rfl, hb⟩
      have HB : Hid (Below w.heap.size w w') := HB2.out.trans (hb.mono HB2.out.size)
      clear hb
      go_wp2_with fail
      refine bodyPost_ret (results_tmp rfl _ _ _) rfl ?_
      exact ⟨rfl, HB.out⟩
    | true =>
      obtain ⟨hg, -, -⟩ := HOK.out rfl
      have HG := Lib.hid hg
      clear hg HOK
      go_upto_region 8 with (fail)
      have HR0 : Hid (Below w2.heap.size w2 w2.drew) := (Below.refl _ w2).drew
      have HC0 : Hid (∀ W, Below w2.heap.size w2 W → W.cell? ⟨bx, 0, none⟩ = some (.int .u32 mo) ∧ W.cell? ⟨bx, 1, none⟩ = some (.int .u32 mu) ∧ W.cell? ⟨bx, 2, none⟩ = some (.int .u8 sh)) := fun W hR => ⟨cell_at (j := 0) (below_at hR HX2.out) rfl, cell_at (j := 1) (below_at hR HX2.out) rfl, cell_at (j := 2) (below_at hR HX2.out) rfl⟩
      refine region_segsR (fun W => Below w2.heap.size w2 W) [([0, 1, 4], [2]), ([], [3]), ([], [5]), ([6], [7]), ([8], [9])] (by kernel_rfl) (by intro dst v c a w h; cases dst <;> exact h) (by kernel_rfl) HR0.out ?_
      refine r_segs ?_
      simp only [opsOf, List.getElem?_toArray, List.getElem?_cons_succ, List.getElem?_cons_zero]
      repeat (refine r_read ?_ (by kernel_rfl) ?_ (fun K hK => ?_); rotate_left 1; (intro W hR; obtain ⟨x0, x1, x2⟩ := HC0.out W hR; clear hR; go_simp; try with_reducible rfl); go_simp; refine hK _ ?_; clear hK K)
      refine r_nil1 ?_
      refine r_op rfl (fun K hK => ?_)
      go_simp
      refine (mapTo_w _ steps _ (HS3.out.below HR0.out) (by have := HL.out; omega)).mono ?_
      rintro e w3 ⟨v, rfl, hv, hb3⟩
      have HV3 := Lib.hid hv
      have HB3 : Hid (Below w2.heap.size w2 w3) := Below.undrew hb3
      clear hb3 hv
      refine hK _ _ HB3.out ?_
      clear hK K
      refine r_segs ?_
      simp only [opsOf]
      refine r_nil1 ?_
      refine r_op rfl (fun K hK => ?_)
      go_simp
      refine (run_w (hn mo mu sh) mo mu sh HH.out H0.out v steps w3 HV3.out (by have := HL.out; omega)).mono ?_
      rintro e w4 ⟨r, rfl, hr, hb4⟩
      have HR4 := Lib.hid hr
      have HB4 : Hid (Below w2.heap.size w2 w4) := HB3.out.trans (hb4.mono HB3.out.size)
      clear hr hb4
      refine hK _ _ HB4.out ?_
      clear hK K
      refine r_segs ?_
      simp only [opsOf]
      refine r_nil1 ?_
      refine r_op rfl (fun K hK => ?_)
      go_simp
      refine (mapSame_w _ r l _ _ w4 HR4.out (HG.out.below HB4.out) (by rw [versM_len]; simp) (by rw [versM_len]; have := HL.out; simp; omega) (versM_all HWF.out (by have := HL.out; omega))).mono ?_
      rintro e w5 ⟨rfl, hb5⟩
      have HB5 : Hid (Below w2.heap.size w2 w5) := HB4.out.trans (hb5.mono HB4.out.size)
      clear hb5
      refine hK _ _ HB5.out ?_
      clear hK K
      refine r_segs ?_
      simp only [opsOf, List.getElem?_toArray, List.getElem?_cons_succ, List.getElem?_cons_zero]
      repeat (refine r_read ?_ (by kernel_rfl) ?_ (fun K hK => ?_); rotate_left 1; (intro W hR; clear hR; go_simp; try with_reducible rfl); go_simp; refine hK _ ?_; clear hK K)
      refine r_nil1 ?_
      refine r_op rfl (fun K hK => ?_)
      go_simp
      refine (awake_w w5).mono ?_
      rintro e w6 ⟨rfl, hb6⟩
      have HB6 : Hid (Below w2.heap.size w2 w6) := HB5.out.trans (hb6.mono HB5.out.size)
      clear hb6
      refine hK _ _ HB6.out ?_
      clear hK K
      refine r_segs ?_
      simp only [opsOf, List.getElem?_toArray, List.getElem?_cons_succ, List.getElem?_cons_zero]
      repeat (refine r_read ?_ (by kernel_rfl) ?_ (fun K hK => ?_); rotate_left 1; (intro W hR; clear hR; go_simp; try with_reducible rfl); go_simp; refine hK _ ?_; clear hK K)
      refine r_nil1 ?_
      refine r_op rfl (fun K hK => ?_)
      go_simp
      refine hK _ _ HB6.out ?_
      clear hK K
      refine r_end ?_
      go_wp2_with fail
      refine bodyPost_ret (results_tmp rfl _ _ _) rfl ?_
      exact ⟨rfl, HB2.out.trans (HB6.out.mono HB2.out.size)⟩
end Go.Proofs.Ytpkndcmgialgcaa
