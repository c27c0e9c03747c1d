/- The walk over the law FnMapUndone, its steps. -/
import Derived.Test.YtpkndcmgialgcaaMUnd
namespace Go.Proofs.Ytpkndcmgialgcaa
open Go.RowKit Go.Maps

theorem stpV_block {w : World} {b : Nat} {steps : List Stp} {t : TypeId} {z : Nat × Nat} (h : w.heap[b]? = some (.cells (steps.flatMap Stp.cells).toArray t z)) : StpV w (.slice (some ⟨b, 0, none⟩) steps.length steps.length) steps :=
  ⟨_, _, rfl, fun j s hs => ⟨b, 0, rfl, fun i u hu => by rw [Nat.zero_add]; exact cell_at h (by simpa using flat_get steps j s hs i u hu)⟩⟩
theorem undS_wf {a b : Nat} {st : Int} (h0 : 1 ≤ st) (h1 : st ≤ 256) : ∀ s ∈ undS a b st, Wf s.K ∧ Wf s.V := fun s hs => by
  simp only [undS, List.mem_cons, List.not_mem_nil, or_false] at hs
  rcases hs with rfl | rfl | rfl | rfl | rfl | rfl <;> exact ⟨WalkArith.wf_i64 (by simp only; omega), WalkArith.wf_i64 (by simp only; omega)⟩

set_option maxRecDepth 100000 in
set_option maxHeartbeats 3200000 in
theorem mund_w (mo mu sh : Int) (_hmo : 0 ≤ mo) (hsh : 0 ≤ sh) (p q c : Int) (hp0 : 0 ≤ p) (hp1 : p ≤ 65535) (hq0 : 0 ≤ q) (hq1 : q ≤ 65535) (hc0 : 0 ≤ c) (hc1 : c ≤ 255) (w : World) :
    Calls Try.prog 5 #[av mo mu sh, .int .u16 p, .int .u16 q, .int .u8 c] w fun e w' => e = .returned (.bool true) ∧ Below w.heap.size w w' := by
  have hA : Below w.heap.size w (w.alloc (.cells #[.int .u32 mo, .int .u32 mu, .int .u8 sh] 24)) := (Below.refl _ _).alloc (Nat.le_refl _) _
  have HX := Lib.hid (heap_alloc_last w (.cells #[.int .u32 mo, .int .u32 mu, .int .u8 sh] 24))
  have HA := Lib.hid hA
  clear hA
  unfold av
  go_enter Try.func5, Try.ntmps5
  go_upto_region 2 with (fail)
  generalize w.alloc (.cells #[.int .u32 mo, .int .u32 mu, .int .u8 sh] 24) = X at HA HX ⊢
  obtain ⟨bx, hbx⟩ : ∃ bx, bx = w.heap.size := ⟨_, rfl⟩
  rw [← hbx] at HX ⊢
  clear hbx
  obtain ⟨a, ha⟩ : ∃ a : Nat, p % 301 = (a : Int) := ⟨(p % 301).toNat, by omega⟩
  obtain ⟨b, hb⟩ : ∃ b : Nat, q % 301 = (b : Int) := ⟨(q % 301).toNat, by omega⟩
  obtain ⟨st, hst⟩ : ∃ st : Int, st = 1 + c := ⟨_, rfl⟩
  rw [ha, hb, ← hst]
  have HAB : Hid (a ≤ 300 ∧ b ≤ 300 ∧ 1 ≤ st ∧ st ≤ 256) := by show _ ∧ _; omega
  have hneg : IntKind.i64.wrap (-st) = -st := by rw [IntKind.wrap_i64]; omega
  clear ha hb hst hp0 hp1 hq0 hq1 hc0 hc1
  have s0 := cell_at (j := 0) HX.out rfl
  have s1 := cell_at (j := 1) HX.out rfl
  have s2 := cell_at (j := 2) HX.out rfl
  obtain ⟨rt, hrt⟩ : ∃ rt, rt = (decide (0 < mo) && decide (sh < 32)) := ⟨_, rfl⟩
  have HRT := Lib.hid hrt
  have HHR := Lib.hid (hashRight_w mo mu sh X rt hrt)
  clear hrt
  go_wp2_with fail
  refine HHR.out.mono ?_
  rintro e w0 ⟨rfl, hb1⟩
  have HX0 := Lib.hid (below_at hb1 HX.out)
  have HB0 : Hid (Below w.heap.size w w0) := HA.out.trans (hb1.mono HA.out.size)
  clear hb1 HHR s0 s1 s2 HX HA
  cases rt with
  | false =>
    go_wp2_with fail
    refine (awake_w _).mono ?_
    rintro e w' ⟨rfl, hb⟩
    have HB : Hid (Below w.heap.size w w') := HB0.out.trans (hb.mono HB0.out.size)
    clear hb
    go_wp2_with fail
    refine bodyPost_ret (results_tmp rfl _ _ _) rfl ?_
    exact ⟨rfl, HB.out⟩
  | true =>
    obtain ⟨g1, g2⟩ : 0 < mo ∧ sh < 32 := by
      have := HRT.out.symm
      simpa using this
    have HH := Lib.hid (hash_is (mo := mo) (mu := mu) (sh := sh) (by omega) hsh g2)
    have h0 : (mo == 0) = false := by simp; omega
    have H0 := Lib.hid h0
    clear g1 g2 h0
    go_upto_region 5 with (fail)
    have hA : Below w0.heap.size w0 (w0.alloc (.cells ((undS a b st).flatMap Stp.cells).toArray 41)) := (Below.refl _ _).alloc (Nat.le_refl _) _
    have hs := stpV_block (heap_alloc_last w0 (.cells ((undS a b st).flatMap Stp.cells).toArray 41))
    have HS1 := Lib.hid hs
    have HX1 := Lib.hid (below_at hA HX0.out)
    have HB1 := Lib.hid (HB0.out.trans (hA.mono HB0.out.size))
    clear hs hA HX0 HB0
    obtain ⟨W, hW⟩ : ∃ W, W = w0.alloc (.cells ((undS a b st).flatMap Stp.cells).toArray 41) := ⟨_, rfl⟩
    change Code.wp Try.prog _ _ _ (w0.alloc (.cells ((undS a b st).flatMap Stp.cells).toArray 41))
    rw [← hW] at HS1 HX1 HB1 ⊢
    clear hW
    change Hid (StpV W (.slice (some ⟨w0.heap.size, 0, none⟩) 6 6) (undS a b st)) at HS1
    generalize w0.heap.size = gb at HS1 ⊢
    clear w0
    obtain ⟨ua, ub, uc, ud⟩ := HAB.out
    have HWF := Lib.hid (undS_wf (a := a) (b := b) uc ud)
    have HV := Lib.hid (mapVersions_w (hn mo mu sh) (.slice (some ⟨gb, 0, none⟩) 6 6) (undS a b st) 400 5000 W HS1.out (by show 6 ≤ 500; omega) (by decide) (by decide) HWF.out)
    clear ua ub uc ud
    go_wp2_with fail
    refine HV.out.mono ?_
    rintro e w2 ⟨l, ok, rfl, hb2, hok⟩
    have HOK := Lib.hid hok
    have HX2 := Lib.hid (below_at hb2 HX1.out)
    have HS3 := Lib.hid (HS1.out.below hb2)
    have HB2 : Hid (Below w.heap.size w w2) := HB1.out.trans (hb2.mono HB1.out.size)
    clear hb2 hok HV HX1 HS1 HB1
    cases ok with
    | false =>
      go_wp2_with fail
      refine (awake_w _).mono ?_
      rintro e w' ⟨rfl, hb⟩
      have HB : Hid (Below w.heap.size w w') := HB2.out.trans (hb.mono HB2.out.size)
      clear hb
      go_wp2_with fail
      refine bodyPost_ret (results_tmp rfl _ _ _) rfl ?_
      exact ⟨rfl, HB.out⟩
    | true =>
      obtain ⟨hg, -, -⟩ := HOK.out rfl
      have HG := Lib.hid hg
      clear hg HOK
      go_upto_region 8 with (fail)
      have HR0 : Hid (Below w2.heap.size w2 w2.drew) := (Below.refl _ w2).drew
      have HC0 : Hid (∀ W, Below w2.heap.size w2 W → W.cell? ⟨bx, 0, none⟩ = some (.int .u32 mo) ∧ W.cell? ⟨bx, 1, none⟩ = some (.int .u32 mu) ∧ W.cell? ⟨bx, 2, none⟩ = some (.int .u8 sh)) := fun W hR => ⟨cell_at (j := 0) (below_at hR HX2.out) rfl, cell_at (j := 1) (below_at hR HX2.out) rfl, cell_at (j := 2) (below_at hR HX2.out) rfl⟩
      refine region_segsR (fun W => Below w2.heap.size w2 W) [([0, 1], [2]), ([], [3]), ([], [4])] (by kernel_rfl) (by intro dst v c a w h; cases dst <;> exact h) (by kernel_rfl) HR0.out ?_
      refine r_segs ?_
      simp only [opsOf, List.getElem?_toArray, List.getElem?_cons_succ, List.getElem?_cons_zero]
      repeat (refine r_read ?_ (by kernel_rfl) ?_ (fun K hK => ?_); rotate_left 1; (intro W hR; obtain ⟨x0, x1, x2⟩ := HC0.out W hR; clear hR; go_simp; try with_reducible rfl); go_simp; refine hK _ ?_; clear hK K)
      refine r_nil1 ?_
      refine r_op rfl (fun K hK => ?_)
      go_simp
      refine (mapTo_w _ (undS a b st) _ (HS3.out.below HR0.out) (by show 6 ≤ 500; omega)).mono ?_
      rintro e w3 ⟨v, rfl, hv, hb3⟩
      have HV3 := Lib.hid hv
      have HB3 : Hid (Below w2.heap.size w2 w3) := Below.undrew hb3
      clear hb3 hv
      refine hK _ _ HB3.out ?_
      clear hK K
      refine r_segs ?_
      simp only [opsOf]
      refine r_nil1 ?_
      refine r_op rfl (fun K hK => ?_)
      go_simp
      refine (run_w (hn mo mu sh) mo mu sh HH.out H0.out v (undS a b st) w3 HV3.out (by show 6 ≤ 500; omega)).mono ?_
      rintro e w4 ⟨r, rfl, hr, hb4⟩
      have HR4 := Lib.hid hr
      clear hr
      have HB4 : Hid (Below w2.heap.size w2 w4) := HB3.out.trans (hb4.mono HB3.out.size)
      clear hb4
      refine hK _ _ HB4.out ?_
      clear hK K
      refine r_segs ?_
      simp only [opsOf]
      refine r_nil1 ?_
      refine r_op rfl (fun K hK => ?_)
      go_simp
      refine hK _ _ HB4.out ?_
      clear hK K
      refine r_end ?_
      obtain ⟨ua, ub, uc, ud⟩ := HAB.out
      have hall := versM_all (h := hn mo mu sh) HWF.out (by show 6 ≤ 500; omega)
      obtain ⟨v1, v2, v3, v4, v5, v6, hvs, l6, l3, l4⟩ := undS_vs (hn mo mu sh) a b st ua ub uc ud
      rw [hvs] at HR4 HG hall
      have HALL := Lib.hid hall
      have L6 := Lib.hid l6
      have L3 := Lib.hid l3
      have L4 := Lib.hid l4
      have HG4 := Lib.hid (HG.out.below HB4.out)
      obtain ⟨rg, rc, rfl⟩ := seens_shape HR4.out (by simp)
      clear ua ub uc ud hall hvs l6 l3 l4 HC0 HR0 HB3 HV3 HS3 HX2 HG
      go_upto_region 9 with (fail)
      have HR0 : Hid (Below w4.heap.size w4 w4.drew) := (Below.refl _ w4).drew
      have HC0 : Hid (∀ W, Below w4.heap.size w4 W → W.cell? ⟨rg, 12, none⟩ = some (.int .i64 0) ∧ W.cell? ⟨rg, 6, none⟩ = some (.int .i64 (v1.es.length : Nat)) ∧ W.cell? ⟨rg, 2, none⟩ = some (.int .i64 (v1.es.length : Nat)) ∧ W.cell? ⟨rg, 8, none⟩ = some (.int .i64 (v1.es.length : Nat))) := fun W hR => by
        obtain ⟨_, _, e6, _, _⟩ := seens_at (j := 6) (HR4.out.below hR) rfl
        obtain ⟨_, _, e3, _, _⟩ := seens_at (j := 3) (HR4.out.below hR) rfl
        obtain ⟨_, _, e1, _, _⟩ := seens_at (j := 1) (HR4.out.below hR) rfl
        obtain ⟨_, _, e4, _, _⟩ := seens_at (j := 4) (HR4.out.below hR) rfl
        rw [L6.out] at e6
        rw [L3.out] at e3
        rw [L4.out] at e4
        exact ⟨e6, e3, e1, e4⟩
      refine region_segsR (fun W => Below w4.heap.size w4 W) [([0, 1], [2]), ([3, 4, 5, 6, 7, 8, 9, 10, 11, 12, 13, 14, 15, 16, 17, 18, 19, 20, 21, 22, 23, 24, 25, 26, 27, 28, 29, 30, 31, 32], [33]), ([34], [35])] (by kernel_rfl) (by intro dst v c a w h; cases dst <;> exact h) (by kernel_rfl) HR0.out ?_
      refine r_segs ?_
      simp only [opsOf, List.getElem?_toArray, List.getElem?_cons_succ, List.getElem?_cons_zero]
      repeat (refine r_read ?_ (by kernel_rfl) ?_ (fun K hK => ?_); rotate_left 1; (intro W hR; clear hR; go_simp; try with_reducible rfl); go_simp; refine hK _ ?_; clear hK K)
      refine r_nil1 ?_
      refine r_op rfl (fun K hK => ?_)
      go_simp
      refine (mapSame_w _ (.slice (some ⟨rg, 0, none⟩) 7 rc) l _ _ w4.drew (HR4.out.below HR0.out) (HG4.out.below HR0.out) (by simp) (by simp) HALL.out).mono ?_
      rintro e w5 ⟨rfl, hb5⟩
      have HB5 : Hid (Below w4.heap.size w4 w5) := Below.undrew hb5
      clear hb5
      refine hK _ _ HB5.out ?_
      clear hK K
      refine r_segs ?_
      simp only [opsOf, List.getElem?_toArray, List.getElem?_cons_succ, List.getElem?_cons_zero]
      repeat (refine r_read ?_ (by kernel_rfl) ?_ (fun K hK => ?_); rotate_left 1; (intro W hR; obtain ⟨x0, x1, x2, x3⟩ := HC0.out W hR; clear hR; go_simp; try with_reducible rfl); go_simp; refine hK _ ?_; clear hK K)
      refine r_nil1 ?_
      refine r_op rfl (fun K hK => ?_)
      go_simp
      refine (awake_w w5).mono ?_
      rintro e w6 ⟨rfl, hb6⟩
      have HB6 : Hid (Below w4.heap.size w4 w6) := HB5.out.trans (hb6.mono HB5.out.size)
      clear hb6
      refine hK _ _ HB6.out ?_
      clear hK K
      refine r_segs ?_
      simp only [opsOf, List.getElem?_toArray, List.getElem?_cons_succ, List.getElem?_cons_zero]
      repeat (refine r_read ?_ (by kernel_rfl) ?_ (fun K hK => ?_); rotate_left 1; (intro W hR; clear hR; go_simp; try with_reducible rfl); go_simp; refine hK _ ?_; clear hK K)
      refine r_nil1 ?_
      refine r_op rfl (fun K hK => ?_)
      go_simp
      refine hK _ _ HB6.out ?_
      clear hK K
      refine r_end ?_
      go_wp2_with fail
      refine bodyPost_ret (results_tmp rfl _ _ _) rfl ?_
      exact ⟨rfl, (HB2.out.trans (HB4.out.mono HB2.out.size)).trans (HB6.out.mono (HB2.out.trans (HB4.out.mono HB2.out.size)).size)⟩
end Go.Proofs.Ytpkndcmgialgcaa
