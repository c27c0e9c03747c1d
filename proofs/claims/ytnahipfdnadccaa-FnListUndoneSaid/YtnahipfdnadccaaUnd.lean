/- The walk over the law FnListUndone. Conditions of this file: none. -/
import Derived.Test.YtnahipfdnadccaaUndP
import Derived.Deep.DeepCutAuto
namespace Go.Proofs.Ytnahipfdnadccaa
open Go.RowKit

set_option maxRecDepth 100000 in
set_option maxHeartbeats 12000000 in
theorem und_w (c d : Int) (ah : Bool) (w : World) (hc : 0 ≤ c ∧ c ≤ 65535) (hd : 0 ≤ d ∧ d ≤ 65535) (hG : Glob w) :
    Calls Try.prog 5 #[.int .u16 c, .int .u16 d, .bool ah] w fun e w' => e = .returned (.bool true) ∧ Below w.heap.size w w' := by
  obtain ⟨n, hcn⟩ : ∃ n : Nat, c.tmod 1501 = n := ⟨(c.tmod 1501).toNat, by have := Int.tmod_nonneg 1501 hc.1; omega⟩
  obtain ⟨m, hdm⟩ : ∃ n : Nat, d.tmod 1501 = n := ⟨(d.tmod 1501).toNat, by have := Int.tmod_nonneg 1501 hd.1; omega⟩
  have hn : n ≤ 1500 := by have := Int.tmod_lt_of_pos c (b := 1501) (by omega); omega
  have hm : m ≤ 1500 := by have := Int.tmod_lt_of_pos d (b := 1501) (by omega); omega
  have hwc : IntKind.i64.wrap c = c := by rw [IntKind.wrap_i64]; omega
  have hwd : IntKind.i64.wrap d = d := by rw [IntKind.wrap_i64]; omega
  obtain ⟨k, hk⟩ : ∃ k, k = undK ah := ⟨_, rfl⟩
  obtain ⟨lo, hlo⟩ : ∃ lo, lo = undL ah m := ⟨_, rfl⟩
  obtain ⟨hi, hhi⟩ : ∃ hi : Nat, hi = lo + n := ⟨_, rfl⟩
  have hlm : lo ≤ 1500 := by rw [hlo]; unfold undL; split <;> omega
  have hwh : IntKind.i64.wrap ((lo : Int) + n) = (hi : Int) := by rw [IntKind.wrap_i64]; omega
  have HG := Lib.hid hG
  have HRN := Lib.hid (undRun ah n m lo hi hn hm hlo hhi)
  have HK := Lib.hid hk
  have HLO := Lib.hid hlo
  clear hG hc hd hk hlo hhi
  go_enter Try.func5, Try.ntmps5
  go_upto_if 19 with (fail)
  go_cut [9, 10, 19] from 20 to 20 (fun v9 v10 _ wc => v9 = .int .u8 (k : Int) ∧ v10 = .int .i64 (lo : Int) ∧ wc = w)
  case first =>
    cases ah with
    | false =>
      go_wp2_with fail
      go_meet
      case rel => exact ⟨by rw [HK.out]; rfl, by rw [HLO.out]; rfl, rfl⟩
    | true =>
      go_wp2_with fail
      go_meet
      case rel => exact ⟨by rw [HK.out]; rfl, by rw [HLO.out]; rfl, rfl⟩
  case rest =>
    obtain ⟨rfl, rfl, rfl⟩ := hcut
    have hst := heap_alloc_last wc (.cells (undS ah n m lo hi |>.flatMap Stp.cells).toArray 29)
    have hrun := listRun_n _ (.slice none 0 0) 0 [] (undS ah n m lo hi) wc.heap.size 0 5 (lt_of_block hst) (steps_at hst) (new0 _) (show 0 + 100000 * (5 + 1) < 33554431 by decide) (HG.out.stay (Stay.of_below ((Below.refl _ wc).alloc (Nat.le_refl _) _)))
    rw [HRN.out, show (undS ah n m lo hi).length = 5 from rfl] at hrun
    have HRUN := Lib.hid hrun
    have HB1 : Hid (Below wc.heap.size wc (wc.alloc (.cells (undS ah n m lo hi |>.flatMap Stp.cells).toArray 29))) := (Below.refl _ wc).alloc (Nat.le_refl _) _
    have hX : (undS ah n m lo hi |>.flatMap Stp.cells).toArray = #[.int .u8 5, .int .i64 0, .int .i64 (n : Int), .int .i64 0, .int .i64 100, .int .u8 (k : Int), .int .i64 1, .int .i64 (m : Int), .int .i64 0, .int .i64 (-9), .int .u8 3, .int .i64 2, .int .i64 (lo : Int), .int .i64 (hi : Int), .int .i64 0, .int .u8 0, .int .i64 3, .int .i64 0, .int .i64 0, .int .i64 4, .int .u8 1, .int .i64 3, .int .i64 0, .int .i64 0, .int .i64 5] := by rw [HK.out]; rfl
    rw [hX] at HRUN HB1
    clear hst hrun hX HK HLO hlm hcn hdm hwc hwd
    go_wp2_with fail
    refine HRUN.out.mono ?_
    rintro e2 w2 ⟨l, p', rfl, hb, ⟨g, cap, rfl, ho⟩, ⟨pa, pc, rfl, hp⟩⟩
    have HB2 := Lib.hid (HB1.out.trans (hb.mono HB1.out.size))
    have HG2 : Hid (Glob w2) := HG.out.stay ((Stay.of_below HB1.out).trans (Stay.of_below hb))
    clear HB1 HRUN hb hp HG
    have hlU : (up n 100).reverse.length = n := by simp [up]
    have hlX := undX_len ah (up n 100).reverse m
    obtain ⟨a1, c1, hc1, hv1⟩ := ho 1 (up n 100).reverse rfl
    obtain ⟨a2, c2, hc2, -⟩ := ho 2 (undX ah (up n 100).reverse m) rfl
    obtain ⟨a3, c3, hc3, hv3⟩ := ho 3 (up n 100).reverse rfl
    obtain ⟨a4, c4, hc4, hv4⟩ := ho 4 ((up n 100).reverse ++ [4]) rfl
    obtain ⟨a5, c5, hc5, hv5⟩ := ho 5 (5 :: (up n 100).reverse) rfl
    rw [hlX] at hc2
    have hl4 : ((up n 100).reverse ++ [4]).length = n + 1 := by rw [List.length_append, hlU]; rfl
    have hl5 : (5 :: (up n 100).reverse).length = n + 1 := by rw [List.length_cons, hlU]
    have HE4 : Hid (((up n 100).reverse ++ [4]).map (Value.int .i64) = ((up n 100).reverse ++ [4]).map (Value.int .i64)) := rfl
    generalize (up n 100).reverse = U at *
    obtain ⟨U4, hU4⟩ : ∃ U4, U4 = U ++ [4] := ⟨_, rfl⟩
    obtain ⟨U5, hU5⟩ : ∃ U5, U5 = 5 :: U := ⟨_, rfl⟩
    clear HE4
    have HE4 : Hid ((U ++ [4]).map (Value.int .i64) = U4.map (Value.int .i64)) := by rw [hU4]; rfl
    have HE5 : Hid (([5] ++ U).map (Value.int .i64) = U5.map (Value.int .i64)) := by rw [hU5]; rfl
    rw [← hU4] at hc4 hv4 hl4
    rw [← hU5] at hc5 hv5 hl5
    rw [hlU] at hc1 hv1 hc2 hc3 hv3
    have HLT : Hid (g < w2.heap.size) := World.block_lt_of_cell? w2 _ hc1
    have HLU : Hid (U.length ≤ 1500) := by show _ ≤ _; omega
    have HLU4 : Hid (U4.length ≤ 1501) := by show _ ≤ _; omega
    have HLU5 : Hid (U5.length ≤ 1501) := by show _ ≤ _; omega
    have HLN : Hid (U.length = n) := hlU
    obtain ⟨s, hs⟩ : ∃ s : Nat, s = n + m := ⟨_, rfl⟩
    rw [← hs] at hc2
    have hws : IntKind.i64.wrap ((n : Int) + m) = (s : Int) := by rw [IntKind.wrap_i64]; omega
    have HV1 := Lib.hid hv1
    have HV3 := Lib.hid hv3
    have HV4 := Lib.hid hv4
    have HV5 := Lib.hid hv5
    have HC1 := Lib.hid hc1
    have HC2 := Lib.hid hc2
    have HC3 := Lib.hid hc3
    have HC4 := Lib.hid hc4
    have HC5 := Lib.hid hc5
    clear hv1 hv3 hv4 hv5 hc1 hc2 hc3 hc4 hc5 ho hU4 hU5 hl4 hl5 hlU hlX hs hn hm HRN
    simp only [List.length_cons, List.length_nil, Nat.zero_add, Nat.reduceAdd]
    go_upto_region 6 with (fail)
    have HR0 : Hid (Below w2.heap.size w2 w2.drew) := (Below.refl _ w2).drew
    refine region_segsR (fun W => Below w2.heap.size w2 W) [([0, 1, 2, 3, 4, 5, 6, 7, 8, 9, 10, 11, 12, 13, 14, 15, 16, 17, 18, 19, 20, 21, 22, 23, 24, 25, 26, 27], [28]), ([29, 30, 31, 32, 33, 34, 35, 36], [37, 38]), ([], [39]), ([], [40]), ([41, 42, 43, 44, 45, 47, 48, 49], [46]), ([], [50]), ([], [51]), ([52, 53], [54]), ([], [55]), ([], [56])] (by kernel_rfl) (by intro dst v c a w h; cases dst <;> exact h) (by kernel_rfl) HR0.out ?_
    refine r_segs ?_
    simp only [opsOf, List.getElem?_toArray, List.getElem?_cons_succ, List.getElem?_cons_zero]
    repeat (refine r_read ?_ (by kernel_rfl) ?_ (fun K hK => ?_); rotate_left 1; (intro W hR; have hc1 := (hR.cell HLT.out).trans HC1.out; have hc2 := (hR.cell HLT.out).trans HC2.out; have hc3 := (hR.cell HLT.out).trans HC3.out; have hc4 := (hR.cell HLT.out).trans HC4.out; have hc5 := (hR.cell HLT.out).trans HC5.out; clear hR; go_simp; try with_reducible rfl); go_simp; refine hK _ ?_; clear hK K)
    refine r_nil1 ?_
    refine r_op rfl (fun K hK => ?_)
    go_simp
    refine (equal_ints (xs := U) (ys := U) (HV3.out.slv.below HR0.out) (HV1.out.slv.below HR0.out) (by have := HLU.out; omega)).mono ?_
    rintro e1 w3 ⟨he1, hs1⟩
    rw [decide_eq_true rfl] at he1
    subst he1
    have HR3 : Hid (Below w2.heap.size w2 w3) := HR0.out.trans (hs1.below _)
    clear hs1
    refine hK _ _ HR3.out ?_
    clear hK K
    clear HR0
    refine r_segs ?_
    simp only [opsOf, List.getElem?_toArray, List.getElem?_cons_succ, List.getElem?_cons_zero]
    repeat (refine r_read ?_ (by kernel_rfl) ?_ (fun K hK => ?_); rotate_left 1; (intro W hR; have hc1 := (hR.cell HLT.out).trans HC1.out; have hc2 := (hR.cell HLT.out).trans HC2.out; have hc3 := (hR.cell HLT.out).trans HC3.out; have hc4 := (hR.cell HLT.out).trans HC4.out; have hc5 := (hR.cell HLT.out).trans HC5.out; clear hR; go_simp; try with_reducible rfl); go_simp; refine hK _ ?_; clear hK K)
    refine r_nil2 ?_ ?_
    · refine r_op rfl (fun K hK => ?_)
      go_simp
      refine (clone_sl _ U w3 (HV1.out.below HR3.out) (by have := HLU.out; omega)).mono ?_
      rintro e4 w4 ⟨vc, rfl, hoc, hbc⟩
      have HR4 : Hid (Below w2.heap.size w2 w4) := HR3.out.trans (hbc.mono HR3.out.size)
      have HO4 := Lib.hid hoc
      have HBQ0 : Hid (w3.heap.size ≤ w4.heap.size ∧ w2.heap.size ≤ w3.heap.size) := ⟨hbc.size, HR3.out.size⟩
      clear hoc hbc
      refine hK _ _ HR4.out ?_
      clear hK K
      refine r_op rfl (fun K hK => ?_)
      go_simp
      have HRP : Hid (Below w2.heap.size w2 (w4.alloc (.cells #[.int .i64 4] 2))) := HR4.out.alloc HR4.out.size _
      have HOP := Lib.hid (HO4.out.alloc (.cells #[.int .i64 4] 2))
      have HQP : Hid ((w4.alloc (.cells #[.int .i64 4] 2)).cell? ⟨w4.heap.size, 0, none⟩ = some (.int .i64 4)) := cell_at (heap_alloc_last w4 _) rfl
      have HBQ : Hid (w3.heap.size ≤ (w4.alloc (.cells #[.int .i64 4] 2)).heap.size ∧ w2.heap.size ≤ w3.heap.size) := ⟨by have := HBQ0.out.1; simp; omega, HBQ0.out.2⟩
      refine hK _ _ HRP.out ?_
      clear hK K
      generalize w4.alloc (.cells #[.int .i64 4] 2) = wp at HRP HOP HQP HBQ ⊢
      generalize w4.heap.size = q4 at HQP ⊢
      clear HR4 HO4 HBQ0 w4
      refine r_segs ?_
      simp only [opsOf]
      repeat (refine r_read ?_ (by kernel_rfl) ?_ (fun K hK => ?_); rotate_left 1; (intro W hR; have hc1 := (hR.cell HLT.out).trans HC1.out; have hc2 := (hR.cell HLT.out).trans HC2.out; have hc3 := (hR.cell HLT.out).trans HC3.out; have hc4 := (hR.cell HLT.out).trans HC4.out; have hc5 := (hR.cell HLT.out).trans HC5.out; clear hR; go_simp; try with_reducible rfl); go_simp; refine hK _ ?_; clear hK K)
      refine r_nil1 ?_
      refine r_op rfl (fun K hK => ?_)
      refine ite_yes (by kernel_rfl) ?_
      refine wp_append_sln (ops := #[]) (.tmp 75) (.tmp 76) rfl w3.heap.size _ _ U rfl HOP.out _ [4] rfl (one_sln HQP.out) (by have := HLU.out; simp; omega) (HBQ.out).1 ?_
      intro v5 w5 hown5 hgrow5
      have HR5 : Hid (Below w2.heap.size w2 w5) := Below.grown HRP.out hgrow5 (HRP.out.size) (fun k hk => Nat.le_trans HBQ.out.2 (HOP.out.lt k hk).1)
      have HS5 := Lib.hid (SlV.of_own hown5)
      clear hown5 hgrow5 HOP HQP HBQ HRP
      go_simp
      refine hK _ _ HR5.out ?_
      clear hK K
      refine r_segs ?_
      simp only [opsOf]
      repeat (refine r_read ?_ (by kernel_rfl) ?_ (fun K hK => ?_); rotate_left 1; (intro W hR; have hc1 := (hR.cell HLT.out).trans HC1.out; have hc2 := (hR.cell HLT.out).trans HC2.out; have hc3 := (hR.cell HLT.out).trans HC3.out; have hc4 := (hR.cell HLT.out).trans HC4.out; have hc5 := (hR.cell HLT.out).trans HC5.out; clear hR; go_simp; try with_reducible rfl); go_simp; refine hK _ ?_; clear hK K)
      refine r_nil1 ?_
      refine r_op rfl (fun K hK => ?_)
      go_simp
      refine (equal_ints (xs := U4) (ys := U4) (HV4.out.slv.below HR5.out) (HE4.out ▸ HS5.out) (by have := HLU4.out; omega)).mono ?_
      rintro e1 w6 ⟨he1, hs1⟩
      rw [decide_eq_true rfl] at he1
      subst he1
      have HR6 : Hid (Below w2.heap.size w2 w6) := HR5.out.trans (hs1.below _)
      clear hs1
      refine hK _ _ HR6.out ?_
      clear hK K
      clear HS5 HR5
      refine r_segs ?_
      simp only [opsOf, List.getElem?_toArray, List.getElem?_cons_succ, List.getElem?_cons_zero]
      repeat (refine r_read ?_ (by kernel_rfl) ?_ (fun K hK => ?_); rotate_left 1; (intro W hR; have hc1 := (hR.cell HLT.out).trans HC1.out; have hc2 := (hR.cell HLT.out).trans HC2.out; have hc3 := (hR.cell HLT.out).trans HC3.out; have hc4 := (hR.cell HLT.out).trans HC4.out; have hc5 := (hR.cell HLT.out).trans HC5.out; clear hR; go_simp; try with_reducible rfl); go_simp; refine hK _ ?_; clear hK K)
      refine r_nil1 ?_
      refine r_op rfl (fun K hK => ?_)
      go_simp
      have HR7 : Hid (Below w2.heap.size w2 (w6.alloc (.cells #[.int .i64 5] 2))) := HR6.out.alloc HR6.out.size _
      have HO7 : Hid ((w6.alloc (.cells #[.int .i64 5] 2)).ownsRow w2.heap.size 2 1 (.slice (some ⟨w6.heap.size, 0, none⟩) 1 1) 1 ([5].map (Value.int .i64))) := built1 w6 (.int .i64 5) HR6.out.size
      refine hK _ _ HR7.out ?_
      clear hK K
      generalize w6.alloc (.cells #[.int .i64 5] 2) = w7 at HR7 HO7 ⊢
      generalize w6.heap.size = q6 at HO7 ⊢
      clear HR6 w6
      refine r_segs ?_
      simp only [opsOf]
      repeat (refine r_read ?_ (by kernel_rfl) ?_ (fun K hK => ?_); rotate_left 1; (intro W hR; have hc1 := (hR.cell HLT.out).trans HC1.out; have hc2 := (hR.cell HLT.out).trans HC2.out; have hc3 := (hR.cell HLT.out).trans HC3.out; have hc4 := (hR.cell HLT.out).trans HC4.out; have hc5 := (hR.cell HLT.out).trans HC5.out; clear hR; go_simp; try with_reducible rfl); go_simp; refine hK _ ?_; clear hK K)
      refine r_nil1 ?_
      refine r_op rfl (fun K hK => ?_)
      refine ite_yes (by kernel_rfl) ?_
      refine wp_append_sln (ops := #[]) (.tmp 84) (.tmp 87) rfl w2.heap.size _ _ [5] rfl HO7.out _ U rfl (HV1.out.below HR7.out) (by have := HLU.out; simp; omega) HR7.out.size ?_
      intro v8 w8 hown8 hgrow8
      have HR8 : Hid (Below w2.heap.size w2 w8) := Below.grown HR7.out hgrow8 HR7.out.size (fun k hk => (HO7.out.lt k hk).1)
      have HS8 := Lib.hid (SlV.of_own hown8)
      clear hown8 hgrow8 HO7 HR7
      go_simp
      refine hK _ _ HR8.out ?_
      clear hK K
      refine r_segs ?_
      simp only [opsOf]
      repeat (refine r_read ?_ (by kernel_rfl) ?_ (fun K hK => ?_); rotate_left 1; (intro W hR; have hc1 := (hR.cell HLT.out).trans HC1.out; have hc2 := (hR.cell HLT.out).trans HC2.out; have hc3 := (hR.cell HLT.out).trans HC3.out; have hc4 := (hR.cell HLT.out).trans HC4.out; have hc5 := (hR.cell HLT.out).trans HC5.out; clear hR; go_simp; try with_reducible rfl); go_simp; refine hK _ ?_; clear hK K)
      refine r_nil1 ?_
      refine r_op rfl (fun K hK => ?_)
      go_simp
      refine (equal_ints (xs := U5) (ys := U5) (HV5.out.slv.below HR8.out) (HE5.out ▸ HS8.out) (by have := HLU5.out; omega)).mono ?_
      rintro e1 w9 ⟨he1, hs1⟩
      rw [decide_eq_true rfl] at he1
      subst he1
      have HR9 : Hid (Below w2.heap.size w2 w9) := HR8.out.trans (hs1.below _)
      clear hs1
      refine hK _ _ HR9.out ?_
      clear hK K
      clear HS8 HR8
      refine r_segs ?_
      simp only [opsOf, List.getElem?_toArray, List.getElem?_cons_succ, List.getElem?_cons_zero]
      repeat (refine r_read ?_ (by kernel_rfl) ?_ (fun K hK => ?_); rotate_left 1; (intro W hR; have hc1 := (hR.cell HLT.out).trans HC1.out; have hc2 := (hR.cell HLT.out).trans HC2.out; have hc3 := (hR.cell HLT.out).trans HC3.out; have hc4 := (hR.cell HLT.out).trans HC4.out; have hc5 := (hR.cell HLT.out).trans HC5.out; clear hR; go_simp; try with_reducible rfl); go_simp; refine hK _ ?_; clear hK K)
      refine r_nil1 ?_
      refine r_op rfl (fun K hK => ?_)
      go_simp
      refine (awake _ (HG2.out.stay (Stay.of_below HR9.out))).mono ?_
      rintro e3 w10 ⟨rfl, hb5⟩
      have HR10 : Hid (Below w2.heap.size w2 w10) := HR9.out.trans (hb5.mono HR9.out.size)
      clear hb5
      refine hK _ _ HR10.out ?_
      clear hK K
      refine r_segs ?_
      simp only [opsOf]
      repeat (refine r_read ?_ (by kernel_rfl) ?_ (fun K hK => ?_); rotate_left 1; (intro W hR; have hc1 := (hR.cell HLT.out).trans HC1.out; have hc2 := (hR.cell HLT.out).trans HC2.out; have hc3 := (hR.cell HLT.out).trans HC3.out; have hc4 := (hR.cell HLT.out).trans HC4.out; have hc5 := (hR.cell HLT.out).trans HC5.out; clear hR; go_simp; try with_reducible rfl); go_simp; refine hK _ ?_; clear hK K)
      refine r_nil1 ?_
      refine r_op rfl (fun K hK => ?_)
      go_simp
      refine hK _ _ HR10.out ?_
      clear hK K
      refine r_segs ?_
      simp only [opsOf]
      repeat (refine r_read ?_ (by kernel_rfl) ?_ (fun K hK => ?_); rotate_left 1; (intro W hR; have hc1 := (hR.cell HLT.out).trans HC1.out; have hc2 := (hR.cell HLT.out).trans HC2.out; have hc3 := (hR.cell HLT.out).trans HC3.out; have hc4 := (hR.cell HLT.out).trans HC4.out; have hc5 := (hR.cell HLT.out).trans HC5.out; clear hR; go_simp; try with_reducible rfl); go_simp; refine hK _ ?_; clear hK K)
      refine r_nil1 ?_
      refine r_op rfl (fun K hK => ?_)
      go_simp
      refine hK _ _ HR10.out ?_
      clear hK K
      refine r_end ?_
      go_wp2_with fail
      go_ret
      exact ⟨rfl, HB2.out.trans (HR10.out.mono HB2.out.size)⟩
    · refine r_op rfl (fun K hK => ?_)
      go_simp
      have HR4 : Hid (Below w2.heap.size w2 (w3.alloc (.cells #[.int .i64 4] 2))) := HR3.out.alloc HR3.out.size _
      have HQ4 : Hid ((w3.alloc (.cells #[.int .i64 4] 2)).cell? ⟨w3.heap.size, 0, none⟩ = some (.int .i64 4)) := cell_at (heap_alloc_last w3 _) rfl
      refine hK _ _ HR4.out ?_
      clear hK K
      generalize w3.alloc (.cells #[.int .i64 4] 2) = w4 at HR4 HQ4 ⊢
      generalize w3.heap.size = q4 at HQ4 ⊢
      refine r_op rfl (fun K hK => ?_)
      go_simp
      refine (clone_sl _ U w4 (HV1.out.below HR4.out) (by have := HLU.out; omega)).mono ?_
      rintro e4 wp ⟨vc, rfl, hoc, hbc⟩
      have HRP : Hid (Below w2.heap.size w2 wp) := HR4.out.trans (hbc.mono HR4.out.size)
      have HOP := Lib.hid hoc
      have HBQ : Hid (w4.heap.size ≤ wp.heap.size ∧ w2.heap.size ≤ w4.heap.size) := ⟨hbc.size, HR4.out.size⟩
      have HQP : Hid (wp.cell? ⟨q4, 0, none⟩ = some (.int .i64 4)) := (hbc.cell (World.block_lt_of_cell? w4 _ HQ4.out)).trans HQ4.out
      clear hoc hbc HQ4
      refine hK _ _ HRP.out ?_
      clear hK K
      refine r_segs ?_
      simp only [opsOf]
      repeat (refine r_read ?_ (by kernel_rfl) ?_ (fun K hK => ?_); rotate_left 1; (intro W hR; have hc1 := (hR.cell HLT.out).trans HC1.out; have hc2 := (hR.cell HLT.out).trans HC2.out; have hc3 := (hR.cell HLT.out).trans HC3.out; have hc4 := (hR.cell HLT.out).trans HC4.out; have hc5 := (hR.cell HLT.out).trans HC5.out; clear hR; go_simp; try with_reducible rfl); go_simp; refine hK _ ?_; clear hK K)
      refine r_nil1 ?_
      refine r_op rfl (fun K hK => ?_)
      refine ite_yes (by kernel_rfl) ?_
      refine wp_append_sln (ops := #[]) (.tmp 75) (.tmp 76) rfl w4.heap.size _ _ U rfl HOP.out _ [4] rfl (one_sln HQP.out) (by have := HLU.out; simp; omega) (HBQ.out).1 ?_
      intro v5 w5 hown5 hgrow5
      have HR5 : Hid (Below w2.heap.size w2 w5) := Below.grown HRP.out hgrow5 (HRP.out.size) (fun k hk => Nat.le_trans HBQ.out.2 (HOP.out.lt k hk).1)
      have HS5 := Lib.hid (SlV.of_own hown5)
      clear hown5 hgrow5 HOP HQP HBQ HRP
      go_simp
      refine hK _ _ HR5.out ?_
      clear hK K
      refine r_segs ?_
      simp only [opsOf]
      repeat (refine r_read ?_ (by kernel_rfl) ?_ (fun K hK => ?_); rotate_left 1; (intro W hR; have hc1 := (hR.cell HLT.out).trans HC1.out; have hc2 := (hR.cell HLT.out).trans HC2.out; have hc3 := (hR.cell HLT.out).trans HC3.out; have hc4 := (hR.cell HLT.out).trans HC4.out; have hc5 := (hR.cell HLT.out).trans HC5.out; clear hR; go_simp; try with_reducible rfl); go_simp; refine hK _ ?_; clear hK K)
      refine r_nil1 ?_
      refine r_op rfl (fun K hK => ?_)
      go_simp
      refine (equal_ints (xs := U4) (ys := U4) (HV4.out.slv.below HR5.out) (HE4.out ▸ HS5.out) (by have := HLU4.out; omega)).mono ?_
      rintro e1 w6 ⟨he1, hs1⟩
      rw [decide_eq_true rfl] at he1
      subst he1
      have HR6 : Hid (Below w2.heap.size w2 w6) := HR5.out.trans (hs1.below _)
      clear hs1
      refine hK _ _ HR6.out ?_
      clear hK K
      clear HS5 HR5
      refine r_segs ?_
      simp only [opsOf, List.getElem?_toArray, List.getElem?_cons_succ, List.getElem?_cons_zero]
      repeat (refine r_read ?_ (by kernel_rfl) ?_ (fun K hK => ?_); rotate_left 1; (intro W hR; have hc1 := (hR.cell HLT.out).trans HC1.out; have hc2 := (hR.cell HLT.out).trans HC2.out; have hc3 := (hR.cell HLT.out).trans HC3.out; have hc4 := (hR.cell HLT.out).trans HC4.out; have hc5 := (hR.cell HLT.out).trans HC5.out; clear hR; go_simp; try with_reducible rfl); go_simp; refine hK _ ?_; clear hK K)
      refine r_nil1 ?_
      refine r_op rfl (fun K hK => ?_)
      go_simp
      have HR7 : Hid (Below w2.heap.size w2 (w6.alloc (.cells #[.int .i64 5] 2))) := HR6.out.alloc HR6.out.size _
      have HO7 : Hid ((w6.alloc (.cells #[.int .i64 5] 2)).ownsRow w2.heap.size 2 1 (.slice (some ⟨w6.heap.size, 0, none⟩) 1 1) 1 ([5].map (Value.int .i64))) := built1 w6 (.int .i64 5) HR6.out.size
      refine hK _ _ HR7.out ?_
      clear hK K
      generalize w6.alloc (.cells #[.int .i64 5] 2) = w7 at HR7 HO7 ⊢
      generalize w6.heap.size = q6 at HO7 ⊢
      clear HR6 w6
      refine r_segs ?_
      simp only [opsOf]
      repeat (refine r_read ?_ (by kernel_rfl) ?_ (fun K hK => ?_); rotate_left 1; (intro W hR; have hc1 := (hR.cell HLT.out).trans HC1.out; have hc2 := (hR.cell HLT.out).trans HC2.out; have hc3 := (hR.cell HLT.out).trans HC3.out; have hc4 := (hR.cell HLT.out).trans HC4.out; have hc5 := (hR.cell HLT.out).trans HC5.out; clear hR; go_simp; try with_reducible rfl); go_simp; refine hK _ ?_; clear hK K)
      refine r_nil1 ?_
      refine r_op rfl (fun K hK => ?_)
      refine ite_yes (by kernel_rfl) ?_
      refine wp_append_sln (ops := #[]) (.tmp 84) (.tmp 87) rfl w2.heap.size _ _ [5] rfl HO7.out _ U rfl (HV1.out.below HR7.out) (by have := HLU.out; simp; omega) HR7.out.size ?_
      intro v8 w8 hown8 hgrow8
      have HR8 : Hid (Below w2.heap.size w2 w8) := Below.grown HR7.out hgrow8 HR7.out.size (fun k hk => (HO7.out.lt k hk).1)
      have HS8 := Lib.hid (SlV.of_own hown8)
      clear hown8 hgrow8 HO7 HR7
      go_simp
      refine hK _ _ HR8.out ?_
      clear hK K
      refine r_segs ?_
      simp only [opsOf]
      repeat (refine r_read ?_ (by kernel_rfl) ?_ (fun K hK => ?_); rotate_left 1; (intro W hR; have hc1 := (hR.cell HLT.out).trans HC1.out; have hc2 := (hR.cell HLT.out).trans HC2.out; have hc3 := (hR.cell HLT.out).trans HC3.out; have hc4 := (hR.cell HLT.out).trans HC4.out; have hc5 := (hR.cell HLT.out).trans HC5.out; clear hR; go_simp; try with_reducible rfl); go_simp; refine hK _ ?_; clear hK K)
      refine r_nil1 ?_
      refine r_op rfl (fun K hK => ?_)
      go_simp
      refine (equal_ints (xs := U5) (ys := U5) (HV5.out.slv.below HR8.out) (HE5.out ▸ HS8.out) (by have := HLU5.out; omega)).mono ?_
      rintro e1 w9 ⟨he1, hs1⟩
      rw [decide_eq_true rfl] at he1
      subst he1
      have HR9 : Hid (Below w2.heap.size w2 w9) := HR8.out.trans (hs1.below _)
      clear hs1
      refine hK _ _ HR9.out ?_
      clear hK K
      clear HS8 HR8
      refine r_segs ?_
      simp only [opsOf, List.getElem?_toArray, List.getElem?_cons_succ, List.getElem?_cons_zero]
      repeat (refine r_read ?_ (by kernel_rfl) ?_ (fun K hK => ?_); rotate_left 1; (intro W hR; have hc1 := (hR.cell HLT.out).trans HC1.out; have hc2 := (hR.cell HLT.out).trans HC2.out; have hc3 := (hR.cell HLT.out).trans HC3.out; have hc4 := (hR.cell HLT.out).trans HC4.out; have hc5 := (hR.cell HLT.out).trans HC5.out; clear hR; go_simp; try with_reducible rfl); go_simp; refine hK _ ?_; clear hK K)
      refine r_nil1 ?_
      refine r_op rfl (fun K hK => ?_)
      go_simp
      refine (awake _ (HG2.out.stay (Stay.of_below HR9.out))).mono ?_
      rintro e3 w10 ⟨rfl, hb5⟩
      have HR10 : Hid (Below w2.heap.size w2 w10) := HR9.out.trans (hb5.mono HR9.out.size)
      clear hb5
      refine hK _ _ HR10.out ?_
      clear hK K
      refine r_segs ?_
      simp only [opsOf]
      repeat (refine r_read ?_ (by kernel_rfl) ?_ (fun K hK => ?_); rotate_left 1; (intro W hR; have hc1 := (hR.cell HLT.out).trans HC1.out; have hc2 := (hR.cell HLT.out).trans HC2.out; have hc3 := (hR.cell HLT.out).trans HC3.out; have hc4 := (hR.cell HLT.out).trans HC4.out; have hc5 := (hR.cell HLT.out).trans HC5.out; clear hR; go_simp; try with_reducible rfl); go_simp; refine hK _ ?_; clear hK K)
      refine r_nil1 ?_
      refine r_op rfl (fun K hK => ?_)
      go_simp
      refine hK _ _ HR10.out ?_
      clear hK K
      refine r_segs ?_
      simp only [opsOf]
      repeat (refine r_read ?_ (by kernel_rfl) ?_ (fun K hK => ?_); rotate_left 1; (intro W hR; have hc1 := (hR.cell HLT.out).trans HC1.out; have hc2 := (hR.cell HLT.out).trans HC2.out; have hc3 := (hR.cell HLT.out).trans HC3.out; have hc4 := (hR.cell HLT.out).trans HC4.out; have hc5 := (hR.cell HLT.out).trans HC5.out; clear hR; go_simp; try with_reducible rfl); go_simp; refine hK _ ?_; clear hK K)
      refine r_nil1 ?_
      refine r_op rfl (fun K hK => ?_)
      go_simp
      refine hK _ _ HR10.out ?_
      clear hK K
      refine r_end ?_
      go_wp2_with fail
      go_ret
      exact ⟨rfl, HB2.out.trans (HR10.out.mono HB2.out.size)⟩

end Go.Proofs.Ytnahipfdnadccaa
