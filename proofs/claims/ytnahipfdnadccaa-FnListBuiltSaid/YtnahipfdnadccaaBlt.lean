/- The walk over the law FnListBuilt. Conditions of this file: none. -/
import Derived.Test.YtnahipfdnadccaaChain
namespace Go.Proofs.Ytnahipfdnadccaa
open Go.RowKit

set_option maxRecDepth 100000 in
set_option maxHeartbeats 4000000 in
theorem blt_w (sv : Value) (steps : List Stp) (w : World) (hs : StpV w sv steps) (hG : Glob w) :
    Calls Try.prog 14 #[sv] w fun e w' => e = .returned (.bool true) ∧ Below w.heap.size w w' := by
  have HS := Lib.hid hs
  have HU : Hid (SlN w (.slice none 0 0) (([] : List Int).map (Value.int .i64))) := ⟨none, 0, rfl, fun _ => rfl, fun i c h => by simp at h⟩
  obtain ⟨i42, hi, hz0, hz1, hz2⟩ := info_parts info42
  have HI := Lib.hid (And.intro hi (And.intro hz0 (And.intro hz1 hz2)))
  clear hi hz0 hz1 hz2
  have HG := Lib.hid hG
  obtain ⟨sa, cap, rfl, hcells⟩ := hs
  have HCE := Lib.hid hcells
  clear hG hcells
  go_enter Try.func14, Try.ntmps14
  by_cases c1 : 2147483647 < steps.length
  · have d1 : decide ((2147483647 : Int) < (steps.length : Int)) = true := by simp; omega
    go_wp2_with fail
    go_ret
    exact ⟨rfl, Below.refl _ _⟩
  have d1 : decide ((2147483647 : Int) < (steps.length : Int)) = false := by simp; omega
  by_cases c2 : 5 < steps.length
  · have d2 : decide ((5 : Int) < (steps.length : Int)) = true := by simp; omega
    go_wp2_with fail
    refine (awake _ HG.out).mono ?_
    rintro e w' ⟨rfl, hb⟩
    have HB := Lib.hid hb
    clear hb
    go_wp2_with fail
    go_ret
    exact ⟨rfl, HB.out⟩
  have d2 : decide ((5 : Int) < (steps.length : Int)) = false := by simp; omega
  have hSL : steps.length ≤ 5 := by omega
  obtain ⟨C, hC⟩ : ∃ C, C = chainOf 0 steps := ⟨_, rfl⟩
  have hCl : C.length = steps.length := by rw [hC]; exact chainOf_len _ _
  have HC := Lib.hid hC
  have HCL := Lib.hid hCl
  clear hC hCl
  go_wp2_with fail
  clear c1 d1 c2 d2
  go_loopg [3, 25] steps.length (fun q v5 v30 wr => ∃ (cv : Value) (j : Nat), cv = v5 ∧ j + q = steps.length ∧ v30 = .int .i64 (j : Int) ∧ wr.ownsRow w.heap.size 42 5 cv j ((C.take j).flatMap Stp.cells) ∧ Below w.heap.size w wr)
  case atStart => exact ⟨_, 0, rfl, by omega, rfl, World.ownsRow_nil _ _ _ _, Below.refl _ _⟩
  case round =>
    obtain ⟨cv, j, rfl, hjk, rfl, ho, hb⟩ := hrel
    have HO := Lib.hid ho
    have HB := Lib.hid hb
    clear ho hb
    have hw1 : IntKind.i64.wrap ((j : Int) + 1) = ((j + 1 : Nat) : Int) := by rw [IntKind.wrap_i64]; omega
    by_cases hlt : j < steps.length
    · have h1 : decide ((j : Int) < (steps.length : Int)) = true := by simp; omega
      obtain ⟨⟨sk, sF, sI, sE, sV⟩, hs⟩ : ∃ s, steps[j]? = some s := ⟨steps[j], List.getElem?_eq_getElem hlt⟩
      obtain ⟨sb, so, rfl, hcells⟩ := HCE.out j _ hs
      have hsb : sb < w.heap.size := World.block_lt_of_cell? w _ (hcells 0 _ rfl)
      have e0 : wr.cell? ⟨sb, so + j * 5, none⟩ = some (.int .u8 (sk : Int)) := (HB.out.cell hsb).trans (hcells 0 _ rfl)
      have e1 : wr.cell? ⟨sb, so + j * 5 + 1, none⟩ = some (.int .i64 sF) := (HB.out.cell hsb).trans (hcells 1 _ rfl)
      have e2 : wr.cell? ⟨sb, so + j * 5 + 2, none⟩ = some (.int .i64 sI) := (HB.out.cell hsb).trans (hcells 2 _ rfl)
      have e3 : wr.cell? ⟨sb, so + j * 5 + 3, none⟩ = some (.int .i64 sE) := (HB.out.cell hsb).trans (hcells 3 _ rfl)
      have e4 : wr.cell? ⟨sb, so + j * 5 + 4, none⟩ = some (.int .i64 sV) := (HB.out.cell hsb).trans (hcells 4 _ rfl)
      have hcj : C[j]? = some ⟨sk, (j : Int), sI, sE, sV⟩ := by
        have h := chainOf_get steps 0 j _ hs
        rw [Nat.zero_add] at h
        rw [HC.out]
        exact h
      have HCJ := Lib.hid hcj
      clear hcells hs hsb hcj
      go_upto_region 9 with (fail)
      have hA : Below wr.heap.size wr (wr.alloc (.cells #[.int .u8 (sk : Int), .int .i64 sF, .int .i64 sI, .int .i64 sE, .int .i64 sV] 42)) := (Below.refl _ wr).alloc (Nat.le_refl _) _
      have hbx := heap_alloc_last wr (.cells #[.int .u8 (sk : Int), .int .i64 sF, .int .i64 sI, .int .i64 sE, .int .i64 sV] 42)
      have hnb : wr.heap.size ≤ wr.heap.size := Nat.le_refl _
      obtain ⟨bx, hbxe⟩ : ∃ bx, bx = wr.heap.size := ⟨_, rfl⟩
      rw [← hbxe] at hbx ⊢
      generalize wr.alloc (.cells #[.int .u8 (sk : Int), .int .i64 sF, .int .i64 sI, .int .i64 sE, .int .i64 sV] 42) = X0 at hbx hA ⊢
      have x1 := cell_at (j := 1) hbx rfl
      have g1 : X0.frozen? ⟨bx, 1, none⟩ = false := frozen_of_row _ _ _ _ _ hbx
      have HX0 := Lib.hid hbx
      have HA := Lib.hid hA
      have HBE := Lib.hid hbxe
      clear e0 e1 e2 e3 e4 hbx hA hbxe hnb
      go_upto_region 10 with (fail)
      have hX : X0.heap[bx]? = some (.cells #[.int .u8 (sk : Int), .int .i64 sF, .int .i64 sI, .int .i64 sE, .int .i64 sV] 42 (0, 0)) := HX0.out
      have hXs := heap_setCell_same X0 bx 1 _ 42 (.int .i64 (j : Int)) hX
      have hXb : Below wr.heap.size wr (X0.setCell ⟨bx, 1, none⟩ (.int .i64 (j : Int))) := HA.out.setCell (by show wr.heap.size ≤ bx; rw [HBE.out]; exact Nat.le_refl _) _
      clear x1 g1 hX
      generalize X0.setCell ⟨bx, 1, none⟩ (.int .i64 (j : Int)) = X at hXs hXb ⊢
      have hXs' : X.heap[bx]? = some (.cells #[.int .u8 (sk : Int), .int .i64 (j : Int), .int .i64 sI, .int .i64 sE, .int .i64 sV] 42 (0, 0)) := by simpa using hXs
      have HOX := Lib.hid (own_below HO.out hXb)
      have HBX := Lib.hid (HB.out.trans (hXb.mono HB.out.size))
      have s0 := cell_at (j := 0) hXs' rfl
      have s1 := cell_at (j := 1) hXs' rfl
      have s2 := cell_at (j := 2) hXs' rfl
      have s3 := cell_at (j := 3) hXs' rfl
      have s4 := cell_at (j := 4) hXs' rfl
      clear hXs hXb hXs' HX0 HA HBE HO HB
      go_wp2_with (at_builtin; refine wpList_append_own _ rfl (.tmp 32) (.tmp 34) 41 rfl w.heap.size 42 i42 (.agg #[.int .u8 0, .int .i64 0, .int .i64 0, .int .i64 0, .int .i64 0]) 5 40 Try.underlying41 HI.out.1 HI.out.2.1 HI.out.2.2.1 HI.out.2.2.2 rfl (by decide) _ _ _ rfl (HOX.out.alloc _) ⟨X.heap.size, 0, none⟩ 1 1 (Stp.cells ⟨sk, (j : Int), sI, sE, sV⟩) rfl rfl (stp_cells5 _ _) (stp_one _) (by unfold maxLen; omega) (by omega) (by have := HBX.out.size; simp; omega) ?_)
      intro v2 w2 hown2 hgrow2 _
      have HO2 := Lib.hid hown2
      have HB2 := Lib.hid (below_grown (HBX.out.alloc HBX.out.size (.cells (Stp.cells ⟨sk, (j : Int), sI, sE, sV⟩).toArray 42)) HOX.out (Nat.le_refl _) (Nat.le_refl _) hgrow2)
      clear hown2 hgrow2
      go_wp2_with fail
      go_roundg (gk - 1)
      case measure => omega
      case rel =>
        refine ⟨_, j + 1, rfl, by omega, rfl, ?_, HB2.out⟩
        have e1 : C.take (j + 1) = C.take j ++ [⟨sk, (j : Int), sI, sE, sV⟩] := by
          rw [List.take_add_one, HCJ.out]; rfl
        rw [e1, List.flatMap_append]
        simpa [List.flatMap_cons, List.flatMap_nil] using HO2.out
    · have h1 : decide ((j : Int) < (steps.length : Int)) = false := by simp; omega
      obtain rfl : j = steps.length := by omega
      have hoC := HO.out
      rw [show C.take steps.length = C by rw [← HCL.out, List.take_length]] at hoC
      have hCV := StpV.of_own hoC HCL.out.symm
      have HV := Lib.hid (versions_a (.slice none 0 0) cv ([] : List Int) C 20000 150000 wr (HU.out.below HB.out) hCV (by have := HCL.out; omega) (by decide) (by decide) (by decide))
      have HCV := Lib.hid hCV
      have hcsh : ∃ ca cc, cv = .slice ca steps.length cc := by
        obtain ⟨a, c, h, _⟩ := hCV
        exact ⟨a, c, by rw [h, HCL.out]⟩
      obtain ⟨ca, cc, rfl⟩ := hcsh
      clear hoC hCV hlt
      go_wp2_with fail
      clear h1 hw1
      refine HV.out.mono ?_
      rintro e w1 ⟨l, p, ok, rfl, hb1, hok⟩
      have HB1 := Lib.hid hb1
      have HBB := Lib.hid (HB.out.trans (hb1.mono HB.out.size))
      have HOK := Lib.hid hok
      clear hb1 hok HV
      cases ok with
      | false =>
        go_wp2_with fail
        refine (awake _ (HG.out.stay (Stay.of_below HBB.out))).mono ?_
        rintro e w' ⟨rfl, hb⟩
        have HF := Lib.hid (HBB.out.trans (hb.mono HBB.out.size))
        clear hb
        go_wp2_with fail
        go_ret
        exact ⟨rfl, HF.out⟩
      | true =>
        obtain ⟨T, hT, hSV, hAsk⟩ := HOK.out rfl
        clear HOK
        have hch := versRun_chain 20000 (by decide) C ([] : List Int) (fun j s h => chainOf_F steps j s (by rw [← HC.out]; exact h)) hAsk C.length (Nat.le_refl _)
        rw [List.take_length, HCL.out] at hch
        obtain ⟨hlast, hps⟩ := hch
        have HLE := Lib.hid hlast
        have HPE := Lib.hid hps
        have hvl : (versRun C ([([] : List Int)], [])).1.length = steps.length + 1 := by rw [versRun_len, HCL.out]; rfl
        have hpl : (versRun C ([([] : List Int)], [])).2.length = steps.length := by rw [versRun_lenP, HCL.out]; simp
        have hbig := (hSV.outer (versRun_ne' _ _)).2
        obtain ⟨g, gc, rfl, hcells⟩ := (hSV.outer (versRun_ne' _ _)).1
        obtain ⟨la, lc, hcell, hlv⟩ := hcells _ _ hlast
        have hLb := hbig _ _ hlast
        have hXb := hbig 0 ([] : List Int) (versRun_0 _ _)
        have hpv := SlV.of_own hSV.ownP
        have HALL := Lib.hid (And.intro hSV hAsk)
        obtain ⟨Y, hY⟩ : ∃ Y, Y = (bldRun C (([] : List Int), [])).1 := ⟨_, rfl⟩
        obtain ⟨ps, hP⟩ : ∃ ps, ps = (bldRun C (([] : List Int), [])).2 := ⟨_, rfl⟩
        rw [← hY] at hcell hlv hLb
        rw [hps, ← hP] at hpv
        rw [hps, ← hP] at hpl
        rw [hvl]
        obtain ⟨V, hV⟩ : ∃ V, V = steps.length + 1 := ⟨_, rfl⟩
        rw [← hV]
        have hwV : IntKind.i64.wrap ((V : Int) - 1) = (steps.length : Int) := by rw [IntKind.wrap_i64]; omega
        have hlV : steps.length < V := by omega
        have HCELL := Lib.hid hcell
        have HLV := Lib.hid hlv
        have HPV := Lib.hid hpv
        have HLB : Hid (Y.length ≤ 1000000) := by show _ ≤ _; omega
        have HXB : Hid (([] : List Int).length ≤ 1000000) := by show _ ≤ _; omega
        have HPL : Hid (ps.length ≤ 1000) := by show _ ≤ _; omega
        have HYE := Lib.hid (And.intro hY hP)
        have HVN := Lib.hid hV
        have HVL := Lib.hid hvl
        clear hlast hps hvl hpl hbig hcells hcell hlv hLb hXb hpv hSV hAsk hT hY hP hV
        go_wp2_with fail
        refine (listTo_w _ C w1 (HCV.out.below HB1.out) (by have := HCL.out; omega)).mono ?_
        rintro e w2 ⟨v, rfl, hv, hb2⟩
        have HVS := Lib.hid hv
        have HB2 := Lib.hid hb2
        clear hv hb2
        have HG2 : Hid (Glob w2) := HG.out.stay (Stay.of_below (HBB.out.trans (HB2.out.mono HBB.out.size)))
        have HRUN := Lib.hid (listRun_s w2 (.slice none 0 0) 0 [] C v HVS.out (new0 _) (by rw [HCL.out]; have h5 := Nat.mul_le_mul_left 100000 (show steps.length + 1 ≤ 41 by omega); exact Nat.lt_of_le_of_lt (Nat.add_le_add (Nat.le_refl 0) h5) (by decide)) HG2.out)
        go_wp2_with fail
        refine HRUN.out.mono ?_
        rintro e w3 ⟨l2, p2, rfl, hb3, ho2, hp2⟩
        rw [show (versRun C ([([] : List Int)], [])).2 = ps by rw [HYE.out.2]; exact HPE.out] at hp2
        obtain ⟨g2, gc2, rfl, hcells2⟩ := ho2
        obtain ⟨la2, lc2, hcell2, hlv2⟩ := hcells2 _ _ HLE.out
        rw [HVL.out, ← HVN.out]
        rw [← HYE.out.1] at hcell2 hlv2
        have HC2 := Lib.hid hcell2
        have HL2 := Lib.hid hlv2
        have HP2 := Lib.hid hp2
        have HB3 := Lib.hid hb3
        have hb13 : Below w1.heap.size w1 w3 := HB2.out.trans (hb3.mono HB2.out.size)
        have HB13 := Lib.hid hb13
        clear hb3 hcells2 hcell2 hlv2 hp2 hb13 HRUN
        go_wp2_with fail
        refine (listTo_w _ C w3 ((HCV.out.below HB1.out).below HB13.out) (by have := HCL.out; omega)).mono ?_
        rintro e w4 ⟨v, rfl, hv, hb4⟩
        have HVS4 := Lib.hid hv
        have HB4 := Lib.hid hb4
        have hb14 : Below w1.heap.size w1 w4 := HB13.out.trans (hb4.mono HB13.out.size)
        have HB14 := Lib.hid hb14
        clear hv hb4 hb14
        have HBLD := Lib.hid (build_w w4 (.slice none 0 0) v [] C ((HU.out.below HBB.out).below HB14.out) HVS4.out (fun i s h => ⟨(HALL.out.2 i s h).1, fun h4 => by have := (HALL.out.2 i s h).2.2.2 h4; omega⟩) (by rw [HCL.out]; have h5 := Nat.mul_le_mul_left 100000 (show steps.length + 1 ≤ 41 by omega); exact Nat.lt_of_le_of_lt (Nat.add_le_add (Nat.le_refl 0) h5) (by decide)) (HG.out.stay (Stay.of_below (HBB.out.trans (HB14.out.mono HBB.out.size)))))
        go_wp2_with fail
        refine HBLD.out.mono ?_
        rintro e w5 ⟨r1, r2, r3, r4, rfl, hb5, q1, q2, q3, q4⟩
        rw [← HYE.out.1] at q1 q2 q3
        rw [← HYE.out.2] at q4
        have HQ1 := Lib.hid q1
        have HQ2 := Lib.hid q2
        have HQ3 := Lib.hid q3
        have HQ4 := Lib.hid q4
        have hb35 : Below w3.heap.size w3 w5 := HB4.out.trans (hb5.mono HB4.out.size)
        have hb15 : Below w1.heap.size w1 w5 := HB13.out.trans (hb35.mono HB13.out.size)
        have HL3 := Lib.hid (HLV.out.below hb15)
        have HP3 := Lib.hid (HPV.out.below hb15)
        have HQ0 := Lib.hid (HL2.out.below hb35)
        have HQ5 := Lib.hid (HP2.out.below hb35)
        have hc1 : w5.cell? ⟨g, steps.length, none⟩ = some (.slice la Y.length lc) := (hb15.cell (World.block_lt_of_cell? w1 _ HCELL.out)).trans HCELL.out
        have hc2 : w5.cell? ⟨g2, steps.length, none⟩ = some (.slice la2 Y.length lc2) := (hb35.cell (World.block_lt_of_cell? w3 _ HC2.out)).trans HC2.out
        have hVV : ((V : Int) == (V : Int)) = true := by simp
        have HB3' := Lib.hid (HBB.out.trans (hb15.mono HBB.out.size))
        clear q1 q2 q3 q4 hb5 hb35 hb15 HBLD
        go_wp2_with fail
        refine (equal_ints (xs := Y) (ys := Y) HQ0.out HL3.out (by have := HLB.out; omega)).mono ?_
        rintro e y1 ⟨he, hs1⟩
        rw [decide_eq_true rfl] at he
        subst he
        have HE1 := Lib.hid hs1
        clear hs1
        go_wp2_with fail
        refine (equal_ints (xs := Y) (ys := Y) (HQ1.out.same HE1.out) (HL3.out.same HE1.out) (by have := HLB.out; omega)).mono ?_
        rintro e y2 ⟨he, hs2⟩
        rw [decide_eq_true rfl] at he
        subst he
        have HE2 := Lib.hid (HE1.out.trans hs2)
        clear hs2
        go_wp2_with fail
        refine (equal_ints (xs := Y) (ys := Y) (HQ2.out.same HE2.out) (HL3.out.same HE2.out) (by have := HLB.out; omega)).mono ?_
        rintro e y3 ⟨he, hs3⟩
        rw [decide_eq_true rfl] at he
        subst he
        have HE3 := Lib.hid (HE2.out.trans hs3)
        clear hs3
        go_wp2_with fail
        refine (equal_ints (xs := Y) (ys := Y) (HQ3.out.same HE3.out) (HL3.out.same HE3.out) (by have := HLB.out; omega)).mono ?_
        rintro e y4 ⟨he, hs4⟩
        rw [decide_eq_true rfl] at he
        subst he
        have HE4 := Lib.hid (HE3.out.trans hs4)
        clear hs4
        go_wp2_with fail
        refine (equal_bools (xs := ps) (ys := ps) (HQ4.out.same HE4.out) (HP3.out.same HE4.out) (by have := HPL.out; omega)).mono ?_
        rintro e y5 ⟨he, hs5⟩
        rw [decide_eq_true rfl] at he
        subst he
        have HE5 := Lib.hid (HE4.out.trans hs5)
        clear hs5
        go_wp2_with fail
        refine (equal_bools (xs := ps) (ys := ps) (HQ5.out.same HE5.out) (HP3.out.same HE5.out) (by have := HPL.out; omega)).mono ?_
        rintro e y6 ⟨he, hs6⟩
        rw [decide_eq_true rfl] at he
        subst he
        have HE6 := Lib.hid (HE5.out.trans hs6)
        clear hs6
        have HFB := Lib.hid (HB3'.out.trans (HE6.out.below _))
        go_wp2_with fail
        refine (awake _ (HG.out.stay (Stay.of_below HFB.out))).mono ?_
        rintro e wz ⟨rfl, hbz⟩
        have HZ := Lib.hid (HFB.out.trans (hbz.mono HFB.out.size))
        clear hbz
        go_wp2_with fail
        go_ret
        exact ⟨rfl, HZ.out⟩

end Go.Proofs.Ytnahipfdnadccaa
