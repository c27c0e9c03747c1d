/- The walk over the law FnListJoined. Conditions of this file: none. -/
import Derived.Test.YtnahipfdnadccaaJoinP
import Derived.Test.YtnahipfdnadccaaSepD
namespace Go.Proofs.Ytnahipfdnadccaa
open Go.RowKit

set_option maxRecDepth 100000 in
set_option maxHeartbeats 8000000 in
theorem join_w (ua ub : Value) (xa xb : List Int) (w : World) (ha : SlN w ua (xa.map (Value.int .i64))) (hb : SlN w ub (xb.map (Value.int .i64))) (hG : Glob w) :
    Calls Try.prog 10 #[ua, ub] w fun e w' => e = .returned (.bool true) ∧ Below w.heap.size w w' := by
  obtain ⟨i29, hi, hz0, hz1, hz2⟩ := info_parts info29
  have HI := Lib.hid (And.intro hi (And.intro hz0 (And.intro hz1 hz2)))
  clear hi hz0 hz1 hz2
  have HG := Lib.hid hG
  have HUA := Lib.hid ha
  have HUB := Lib.hid hb
  obtain ⟨aa, ca, rfl, -, -⟩ := ha
  obtain ⟨ab, cb, rfl, -, hbc⟩ := hb
  have HBC := Lib.hid hbc
  rw [List.length_map] at HUA HUB
  rw [List.length_map, List.length_map]
  clear hG hbc
  go_enter Try.func10, Try.ntmps10
  by_cases c0 : 2147483647 < xa.length
  · have d0 : decide ((2147483647 : Int) < (xa.length : Int)) = true := by simp; omega
    go_wp2_with fail
    go_ret
    exact ⟨rfl, Below.refl _ _⟩
  have d0 : decide ((2147483647 : Int) < (xa.length : Int)) = false := by simp; omega
  by_cases c1 : 2147483647 < xb.length
  · have d1 : decide ((2147483647 : Int) < (xb.length : Int)) = true := by simp; omega
    go_wp2_with fail
    go_ret
    exact ⟨rfl, Below.refl _ _⟩
  have d1 : decide ((2147483647 : Int) < (xb.length : Int)) = false := by simp; omega
  by_cases c2 : 200 < xa.length
  · have d2 : decide ((200 : Int) < (xa.length : Int)) = true := by simp; omega
    go_wp2_with fail
    refine (awake _ HG.out).mono ?_
    rintro e w' ⟨rfl, hb⟩
    have HB := Lib.hid hb
    clear hb
    go_wp2_with fail
    go_ret
    exact ⟨rfl, HB.out⟩
  have d2 : decide ((200 : Int) < (xa.length : Int)) = false := by simp; omega
  by_cases c3 : 200 < xb.length
  · have d3 : decide ((200 : Int) < (xb.length : Int)) = true := by simp; omega
    go_wp2_with fail
    refine (awake _ HG.out).mono ?_
    rintro e w' ⟨rfl, hb⟩
    have HB := Lib.hid hb
    clear hb
    go_wp2_with fail
    go_ret
    exact ⟨rfl, HB.out⟩
  have d3 : decide ((200 : Int) < (xb.length : Int)) = false := by simp; omega
  have HXA : Hid (xa.length ≤ 200) := by show _ ≤ _; omega
  have HXB : Hid (xb.length ≤ 200) := by show _ ≤ _; omega
  obtain ⟨gb, hgb⟩ : ∃ gb : Nat → Int, gb = fun i => xb.getD i 0 := ⟨_, rfl⟩
  obtain ⟨ga, hga⟩ : ∃ ga : Nat → Int, ga = fun i => xb.getD (xb.length - 1 - i) 0 := ⟨_, rfl⟩
  have HGB := Lib.hid hgb
  have HGA := Lib.hid hga
  clear hgb hga
  go_wp2_with fail
  go_loopg [5, 6, 33] xb.length (fun k v5 v6 i wr => ∃ j : Nat, j + k = xb.length ∧ i = .int .i64 (j : Int) ∧ wr.ownsRow w.heap.size 29 5 v5 j ((joinS 0 gb j).flatMap Stp.cells) ∧ wr.ownsRow w.heap.size 29 5 v6 j ((joinS 1 ga j).flatMap Stp.cells) ∧ Two v5 v6 ∧ Below w.heap.size w wr)
  case atStart => exact ⟨0, by omega, rfl, World.ownsRow_nil _ _ _ _, World.ownsRow_nil _ _ _ _, .inl rfl, Below.refl _ _⟩
  case round =>
    clear c0 c1 c2 c3 d0 d1 d2 d3
    obtain ⟨j, hjk, rfl, ho5, ho6, h56, hb⟩ := hrel
    have HO5 := Lib.hid ho5
    have HO6 := Lib.hid ho6
    have H56 := Lib.hid h56
    have HB := Lib.hid hb
    clear ho5 ho6 h56 hb
    have hw1 : IntKind.i64.wrap ((j : Int) + 1) = (j : Int) + 1 := by have := HXB.out; rw [IntKind.wrap_i64]; omega
    by_cases hlt : j < xb.length
    · have h1 : decide ((j : Int) < (xb.length : Int)) = true := by simp; omega
      obtain ⟨r, hr⟩ : ∃ r, r = xb.length - 1 - j := ⟨_, rfl⟩
      have hrl : r < xb.length := by omega
      have hw2 : IntKind.i64.wrap ((xb.length : Int) - 1) = (xb.length : Int) - 1 := by have := HXB.out; rw [IntKind.wrap_i64]; omega
      have hw3 : IntKind.i64.wrap ((xb.length : Int) - 1 - j) = (r : Int) := by have := HXB.out; rw [IntKind.wrap_i64]; omega
      obtain ⟨x, hx⟩ : ∃ x, xb[j]? = some x := ⟨xb[j], List.getElem?_eq_getElem hlt⟩
      obtain ⟨y, hy⟩ : ∃ y, xb[r]? = some y := ⟨xb[r], List.getElem?_eq_getElem hrl⟩
      obtain ⟨bb, bo, rfl, hxc⟩ := HBC.out j (.int .i64 x) (by rw [List.getElem?_map, hx]; rfl)
      obtain ⟨bb', bo', hbe, hyc⟩ := HBC.out r (.int .i64 y) (by rw [List.getElem?_map, hy]; rfl)
      simp only [Option.some.injEq, Addr.mk.injEq, and_true] at hbe
      obtain ⟨rfl, rfl⟩ := hbe
      have HBL : Hid (bb < w.heap.size) := World.block_lt_of_cell? w _ hxc
      have hxw := (HB.out.cell HBL.out).trans hxc
      have HYC := Lib.hid hyc
      have HGBJ : Hid (gb j = x) := by show _ = _; rw [HGB.out]; simp [List.getD, hx]
      have HGAJ : Hid (ga j = y) := by show _ = _; rw [HGA.out]; simp only; rw [← hr]; simp [List.getD, hy]
      have hjl : (j : Int) < (xb.length : Int) := by omega
      have hrl' : (r : Int) < (xb.length : Int) := by omega
      clear hx hy hxc hyc hr
      go_wp2_with (at_builtin; refine wpList_append_own_at _ rfl (.tmp 38) (.tmp 42) 30 rfl w.heap.size 29 i29 (.agg #[.int .u8 0, .int .i64 0, .int .i64 0, .int .i64 0, .int .i64 0]) 5 40 Try.underlying30 HI.out.1 HI.out.2.1 HI.out.2.2.1 HI.out.2.2.2 rfl (by decide) _ _ _ rfl (HO5.out.alloc _) ⟨wr.heap.size, 0, none⟩ 1 1 (Stp.cells ⟨0, (j : Int), 0, 0, x⟩) rfl rfl (stp_cells5 _ _) (stp_one _) (by have := HXB.out; unfold maxLen; omega) (by have := HXB.out; omega) (by have := HB.out.size; simp; omega) ?_)
      intro v2 w2 hown2 hgrow2 _ hblk2
      have HO5' := Lib.hid hown2
      have HB2 := Lib.hid (below_grown (HB.out.alloc HB.out.size (.cells (Stp.cells ⟨0, (j : Int), 0, 0, x⟩).toArray 29)) HO5.out (Nat.le_refl _) (Nat.le_refl _) hgrow2)
      have HO6' := Lib.hid ((HO6.out.alloc (.cells (Stp.cells ⟨0, (j : Int), 0, 0, x⟩).toArray 29)).kept hgrow2 H56.out.symm)
      have H56' := Lib.hid (H56.out.new hblk2 (fun k hk => by have := (HO6.out.lt k hk).2; simp; omega))
      have hyw : w2.cell? ⟨bb, bo + r, none⟩ = some (.int .i64 y) := (HB2.out.cell HBL.out).trans HYC.out
      clear hown2 hgrow2 hblk2 hxw
      go_wp2_with (at_builtin; refine wpList_append_own_at _ rfl (.tmp 44) (.tmp 55) 30 rfl w.heap.size 29 i29 (.agg #[.int .u8 0, .int .i64 0, .int .i64 0, .int .i64 0, .int .i64 0]) 5 40 Try.underlying30 HI.out.1 HI.out.2.1 HI.out.2.2.1 HI.out.2.2.2 rfl (by decide) _ _ _ rfl (HO6'.out.alloc _) ⟨w2.heap.size, 0, none⟩ 1 1 (Stp.cells ⟨1, (j : Int), 0, 0, y⟩) rfl rfl (stp_cells5 _ _) (stp_one _) (by have := HXB.out; unfold maxLen; omega) (by have := HXB.out; omega) (by have := HB2.out.size; simp; omega) ?_)
      intro v3 w3 hown3 hgrow3 _ hblk3
      have HO6'' := Lib.hid hown3
      have HB3 := Lib.hid (below_grown (HB2.out.alloc HB2.out.size (.cells (Stp.cells ⟨1, (j : Int), 0, 0, y⟩).toArray 29)) HO6'.out (Nat.le_refl _) (Nat.le_refl _) hgrow3)
      have HO5'' := Lib.hid ((HO5'.out.alloc (.cells (Stp.cells ⟨1, (j : Int), 0, 0, y⟩).toArray 29)).kept hgrow3 H56'.out)
      have H56'' := Lib.hid ((Two.new H56'.out.symm hblk3 (fun k hk => by have := (HO5'.out.lt k hk).2; simp; omega)).symm)
      clear hown3 hgrow3 hblk3 hyw
      go_wp2_with fail
      go_roundg (gk - 1)
      case measure => omega
      case rel =>
        refine ⟨j + 1, by omega, rfl, ?_, ?_, H56''.out, HB3.out⟩
        · rw [joinS, HGBJ.out, List.flatMap_append]
          simpa [List.flatMap_cons, List.flatMap_nil] using HO5''.out
        · rw [joinS, HGAJ.out, List.flatMap_append]
          simpa [List.flatMap_cons, List.flatMap_nil] using HO6''.out
    · have h1 : decide ((j : Int) < (xb.length : Int)) = false := by simp; omega
      obtain rfl : j = xb.length := by omega
      have hsb := StpW.of_own HO5.out (joinS_len 0 gb xb.length).symm
      have hsa := StpW.of_own HO6.out (joinS_len 1 ga xb.length).symm
      have hrb := joinRun 0 xa gb (.inl rfl) xb.length
      have hra := joinRun 1 xa ga (.inr rfl) xb.length
      rw [HGB.out, back_eq, ← HGB.out] at hrb
      rw [HGA.out, ahead_eq, ← HGA.out] at hra
      have hlb := joinS_len 0 gb xb.length
      have hla := joinS_len 1 ga xb.length
      have hvb := versRun_len (joinS 0 gb xb.length) ([xa], [])
      have hva := versRun_len (joinS 1 ga xb.length) ([xa], [])
      rw [hlb] at hvb
      rw [hla] at hva
      simp only [List.length_cons, List.length_nil, Nat.zero_add] at hvb hva
      have HRUN1 := Lib.hid (listRun_s wr (.slice aa xa.length ca) xa.length xa (joinS 0 gb xb.length) _ hsb (new_list _ xa wr (HUA.out.below HB.out).slv (by have := HXA.out; omega)) (by rw [hlb]; have := HXA.out; have := HXB.out; omega) (HG.out.stay (Stay.of_below HB.out)))
      have HSA := Lib.hid hsa
      have HRB := Lib.hid hrb
      have HRA' := Lib.hid hra
      have HVB := Lib.hid hvb
      have HVA := Lib.hid hva
      have HLA := Lib.hid hla
      clear hsb hsa hrb hra hlb hla hvb hva HO5 HO6 H56 hw1 hlt
      go_wp2_with fail
      refine HRUN1.out.mono ?_
      rintro e2 w1 ⟨l1, p1, rfl, hb1, ⟨g1, cap1, rfl, ho1⟩, -⟩
      have HB1 := Lib.hid hb1
      obtain ⟨x1, y1, hc1, hv1⟩ := ho1 xb.length (xa ++ xb) HRB.out
      obtain ⟨Z1, hZ1⟩ : ∃ Z1, Z1 = xa ++ xb := ⟨_, rfl⟩
      rw [← hZ1] at hc1 hv1
      have HE1 : Hid ((xa ++ xb).map (Value.int .i64) = Z1.map (Value.int .i64)) := by rw [hZ1]; rfl
      have HZ1 : Hid (Z1.length ≤ 400) := by show _ ≤ _; rw [hZ1]; have := HXA.out; have := HXB.out; simp; omega
      clear hZ1
      have HL1' : Hid (g1 < w1.heap.size) := World.block_lt_of_cell? w1 _ hc1
      have HC1' := Lib.hid hc1
      have HV1' := Lib.hid hv1
      have HRUN2 := Lib.hid (listRun_s w1 (.slice aa xa.length ca) xa.length xa (joinS 1 ga xb.length) _ (HSA.out.below hb1) (new_list _ xa w1 ((HUA.out.below HB.out).below hb1).slv (by have := HXA.out; omega)) (by rw [HLA.out]; have := HXA.out; have := HXB.out; omega) (HG.out.stay ((Stay.of_below HB.out).trans (Stay.of_below hb1))))
      clear hb1 ho1 hc1 hv1 HRUN1
      go_wp2_with fail
      refine HRUN2.out.mono ?_
      rintro e3 w2 ⟨l2, p2, rfl, hb2, ⟨g2, cap2, rfl, ho2⟩, -⟩
      obtain ⟨x2, y2, hc2, hv2⟩ := ho2 xb.length (xb ++ xa) HRA'.out
      obtain ⟨Z2, hZ2⟩ : ∃ Z2, Z2 = xb ++ xa := ⟨_, rfl⟩
      rw [← hZ2] at hc2 hv2
      have HE2 : Hid ((xb ++ xa).map (Value.int .i64) = Z2.map (Value.int .i64)) := by rw [hZ2]; rfl
      have HZ2 : Hid (Z2.length ≤ 400) := by show _ ≤ _; rw [hZ2]; have := HXA.out; have := HXB.out; simp; omega
      clear hZ2
      have HC2 := Lib.hid hc2
      have HL2 : Hid (g2 < w2.heap.size) := World.block_lt_of_cell? w2 _ hc2
      have HV2 := Lib.hid hv2
      have HC1 := Lib.hid ((hb2.cell HL1'.out).trans HC1'.out)
      have HL1 : Hid (g1 < w2.heap.size) := Nat.lt_of_lt_of_le HL1'.out hb2.size
      have HV1 := Lib.hid (HV1'.out.below hb2)
      have HB2 := Lib.hid (HB.out.trans ((HB1.out.trans (hb2.mono HB1.out.size)).mono HB.out.size))
      have HUA2 := Lib.hid (((HUA.out.below HB.out).below HB1.out).below hb2)
      have HUB2 := Lib.hid (((HUB.out.below HB.out).below HB1.out).below hb2)
      have HG2 : Hid (Glob w2) := HG.out.stay (Stay.of_below HB2.out)
      have hnb : (((versRun (joinS 0 gb xb.length) ([xa], [])).1.length : Nat) : Int) = (xb.length : Int) + 1 := by rw [HVB.out]; omega
      have hna : (((versRun (joinS 1 ga xb.length) ([xa], [])).1.length : Nat) : Int) = (xb.length : Int) + 1 := by rw [HVA.out]; omega
      clear hb2 ho2 hc2 hv2 HRUN2 HC1' HL1' HV1' HB1 HSA HRB HRA' HVB HVA HLA
      generalize (versRun (joinS 0 gb xb.length) ([xa], [])).1.length = nb at hnb ⊢
      generalize (versRun (joinS 1 ga xb.length) ([xa], [])).1.length = na at hna ⊢
      have hqb : ((nb : Int) == (xb.length : Int) + 1) = true := by simp; omega
      have hqa : ((na : Int) == (xb.length : Int) + 1) = true := by simp; omega
      have hib : xb.length < nb := by omega
      have hia : xb.length < na := by omega
      have hw4 : IntKind.i64.wrap ((xb.length : Int) + 1) = (xb.length : Int) + 1 := by have := HXB.out; rw [IntKind.wrap_i64]; omega
      clear hnb hna
      go_upto_region 15 with (fail)
      have HR0 : Hid (Below w2.heap.size w2 w2.drew) := (Below.refl _ w2).drew
      refine region_segsR (fun W => Below w2.heap.size w2 W) [([0, 1, 2, 3, 4, 5, 6, 7, 8, 9, 10, 11, 12, 13, 14, 15, 16, 17, 18], [19]), ([], [20]), ([], [21]), ([22, 23, 24, 25, 26, 27, 28, 29], [30]), ([], [31]), ([], [32]), ([33, 34], [35]), ([], [36]), ([], [37])] (by kernel_rfl) (by intro dst v c a w h; cases dst <;> exact h) (by kernel_rfl) HR0.out ?_
      generalize w2.drew = wd at HR0 ⊢
      refine r_segs ?_
      simp only [opsOf, List.getElem?_toArray, List.getElem?_cons_succ, List.getElem?_cons_zero]
      repeat (refine r_read ?_ (by kernel_rfl) ?_ (fun K hK => ?_); rotate_left 1; (intro W hR; have hc1 := (hR.cell HL1.out).trans HC1.out; have hc2 := (hR.cell HL2.out).trans HC2.out; clear hR; go_simp; try with_reducible rfl); go_simp; refine hK _ ?_; clear hK K)
      refine r_nil1 ?_
      refine r_op rfl (fun K hK => ?_)
      go_simp
      have HRA : Hid (Below w2.heap.size w2 (wd.alloc (.cells #[.slice aa xa.length ca, .slice ab xb.length cb] 32))) := HR0.out.alloc HR0.out.size _
      have hq0 : (wd.alloc (.cells #[.slice aa xa.length ca, .slice ab xb.length cb] 32)).cell? ⟨wd.heap.size, 0, none⟩ = some (.slice aa xa.length ca) := cell_at (heap_alloc_last wd _) rfl
      have hq1 : (wd.alloc (.cells #[.slice aa xa.length ca, .slice ab xb.length cb] 32)).cell? ⟨wd.heap.size, 1, none⟩ = some (.slice ab xb.length cb) := cell_at (heap_alloc_last wd _) rfl
      have HQ0 := Lib.hid hq0
      have HQ1 := Lib.hid hq1
      clear hq0 hq1
      refine hK _ _ HRA.out ?_
      clear hK K
      generalize wd.alloc (.cells #[.slice aa xa.length ca, .slice ab xb.length cb] 32) = wq at HRA HQ0 HQ1 ⊢
      generalize wd.heap.size = q0 at HQ0 HQ1 ⊢
      refine r_segs ?_
      simp only [opsOf]
      refine r_nil1 ?_
      refine r_op rfl (fun K hK => ?_)
      go_simp
      refine (concat_w q0 2 _ _ xa xb wq HQ0.out HQ1.out (HUA2.out.below HRA.out) (HUB2.out.below HRA.out) (by have := HXA.out; omega) (by have := HXB.out; omega)).mono ?_
      rintro e5 wn ⟨vn, rfl, hoc, hbc⟩
      have HRB : Hid (Below w2.heap.size w2 wn) := HRA.out.trans (hbc.mono HRA.out.size)
      have HSN := Lib.hid (SlV.of_own (HE1.out ▸ hoc))
      clear hoc hbc HQ0 HQ1 HRA
      refine hK _ _ HRB.out ?_
      clear hK K
      refine r_segs ?_
      simp only [opsOf]
      refine r_nil1 ?_
      refine r_op rfl (fun K hK => ?_)
      go_simp
      refine (equal_ints (xs := Z1) (ys := Z1) (HV1.out.below HRB.out) HSN.out (by have := HZ1.out; omega)).mono ?_
      rintro e6 we1 ⟨he6, hs6⟩
      rw [decide_eq_true rfl] at he6
      subst he6
      have HRC1 : Hid (Below w2.heap.size w2 we1) := HRB.out.trans (hs6.below _)
      clear hs6 HSN HRB
      refine hK _ _ HRC1.out ?_
      clear hK K
      refine r_segs ?_
      simp only [opsOf, List.getElem?_toArray, List.getElem?_cons_succ, List.getElem?_cons_zero]
      repeat (refine r_read ?_ (by kernel_rfl) ?_ (fun K hK => ?_); rotate_left 1; (intro W hR; have hc1 := (hR.cell HL1.out).trans HC1.out; have hc2 := (hR.cell HL2.out).trans HC2.out; clear hR; go_simp; try with_reducible rfl); go_simp; refine hK _ ?_; clear hK K)
      refine r_nil1 ?_
      refine r_op rfl (fun K hK => ?_)
      go_simp
      have HRA : Hid (Below w2.heap.size w2 (we1.alloc (.cells #[.slice ab xb.length cb, .slice aa xa.length ca] 32))) := HRC1.out.alloc HRC1.out.size _
      have hq0 : (we1.alloc (.cells #[.slice ab xb.length cb, .slice aa xa.length ca] 32)).cell? ⟨we1.heap.size, 0, none⟩ = some (.slice ab xb.length cb) := cell_at (heap_alloc_last we1 _) rfl
      have hq1 : (we1.alloc (.cells #[.slice ab xb.length cb, .slice aa xa.length ca] 32)).cell? ⟨we1.heap.size, 1, none⟩ = some (.slice aa xa.length ca) := cell_at (heap_alloc_last we1 _) rfl
      have HQ0 := Lib.hid hq0
      have HQ1 := Lib.hid hq1
      clear hq0 hq1
      refine hK _ _ HRA.out ?_
      clear hK K
      generalize we1.alloc (.cells #[.slice ab xb.length cb, .slice aa xa.length ca] 32) = wq at HRA HQ0 HQ1 ⊢
      generalize we1.heap.size = q0 at HQ0 HQ1 ⊢
      refine r_segs ?_
      simp only [opsOf]
      refine r_nil1 ?_
      refine r_op rfl (fun K hK => ?_)
      go_simp
      refine (concat_w q0 2 _ _ xb xa wq HQ0.out HQ1.out (HUB2.out.below HRA.out) (HUA2.out.below HRA.out) (by have := HXB.out; omega) (by have := HXA.out; omega)).mono ?_
      rintro e5 wn ⟨vn, rfl, hoc, hbc⟩
      have HRB : Hid (Below w2.heap.size w2 wn) := HRA.out.trans (hbc.mono HRA.out.size)
      have HSN := Lib.hid (SlV.of_own (HE2.out ▸ hoc))
      clear hoc hbc HQ0 HQ1 HRA
      refine hK _ _ HRB.out ?_
      clear hK K
      refine r_segs ?_
      simp only [opsOf]
      refine r_nil1 ?_
      refine r_op rfl (fun K hK => ?_)
      go_simp
      refine (equal_ints (xs := Z2) (ys := Z2) (HV2.out.below HRB.out) HSN.out (by have := HZ2.out; omega)).mono ?_
      rintro e6 we2 ⟨he6, hs6⟩
      rw [decide_eq_true rfl] at he6
      subst he6
      have HRC2 : Hid (Below w2.heap.size w2 we2) := HRB.out.trans (hs6.below _)
      clear hs6 HSN HRB
      refine hK _ _ HRC2.out ?_
      clear hK K
      refine r_segs ?_
      simp only [opsOf, List.getElem?_toArray, List.getElem?_cons_succ, List.getElem?_cons_zero]
      repeat (refine r_read ?_ (by kernel_rfl) ?_ (fun K hK => ?_); rotate_left 1; (intro W hR; have hc1 := (hR.cell HL1.out).trans HC1.out; have hc2 := (hR.cell HL2.out).trans HC2.out; clear hR; go_simp; try with_reducible rfl); go_simp; refine hK _ ?_; clear hK K)
      refine r_nil1 ?_
      refine r_op rfl (fun K hK => ?_)
      go_simp
      refine (awake _ (HG2.out.stay (Stay.of_below HRC2.out))).mono ?_
      rintro e3 w10 ⟨rfl, hb5⟩
      have HR10 : Hid (Below w2.heap.size w2 w10) := HRC2.out.trans (hb5.mono HRC2.out.size)
      clear hb5
      refine hK _ _ HR10.out ?_
      clear hK K
      refine r_segs ?_
      simp only [opsOf]
      refine r_nil1 ?_
      refine r_op rfl (fun K hK => ?_)
      go_simp
      refine hK _ _ HR10.out ?_
      clear hK K
      refine r_segs ?_
      simp only [opsOf]
      refine r_nil1 ?_
      refine r_op rfl (fun K hK => ?_)
      go_simp
      refine hK _ _ HR10.out ?_
      clear hK K
      refine r_end ?_
      go_wp2_with fail
      go_ret
      exact ⟨rfl, HB2.out.trans (HR10.out.mono HB2.out.size)⟩

end Go.Proofs.Ytnahipfdnadccaa

