/- The walk over the law FnListSets. Conditions of this file: none. -/
import Derived.Test.YtnahipfdnadccaaSetsP
import Derived.Test.YtnahipfdnadccaaDoP
import Derived.Test.YtnahipfdnadccaaSegR
import Derived.Deep.DeepCutAuto
namespace Go.Proofs.Ytnahipfdnadccaa
open Go.RowKit

theorem stp_built (w : World) {B : Nat} (s : Stp) (h : B ≤ w.heap.size) : (w.alloc (.cells s.cells.toArray 29)).ownsRow B 29 5 (.slice (some ⟨w.heap.size, 0, none⟩) 1 1) 1 s.cells :=
  ⟨rfl, .inr ⟨w.heap.size, 1, s.cells.toArray, rfl, h, heap_alloc_last w _, Nat.le_refl _, by unfold maxLen; omega, rfl, rfl⟩⟩

theorem own_ne5 {w : World} {b b' n n' : Nat} {v v' : Value} {xs xs' : List Value} (h : w.ownsRow b 29 5 v n xs) (h' : w.ownsRow b' 2 1 v' n' xs') : v.ownBlock = none ∨ v.ownBlock ≠ v'.ownBlock := own_ne h h' (by decide)
theorem own_ne2 {w : World} {b b' n n' : Nat} {v v' : Value} {xs xs' : List Value} (h : w.ownsRow b 2 1 v n xs) (h' : w.ownsRow b' 29 5 v' n' xs') : v.ownBlock = none ∨ v.ownBlock ≠ v'.ownBlock := own_ne h h' (by decide)

set_option maxRecDepth 100000 in
set_option maxHeartbeats 6400000 in
theorem sets_w (c : Int) (pv vv : Value) (ps vs : List Int) (w : World) (hc : 0 ≤ c ∧ c ≤ 65535) (hp : SlN w pv (ps.map (Value.int .u16))) (hpw : ∀ p ∈ ps, 0 ≤ p ∧ p ≤ 65535) (hv : SlN w vv (vs.map (Value.int .i64))) (hG : Glob w) :
    Calls Try.prog 6 #[.int .u16 c, pv, vv] w fun e w' => e = .returned (.bool true) ∧ Below w.heap.size w w' := by
  obtain ⟨n0, hn⟩ : ∃ n : Nat, c.tmod 1500 = n := ⟨(c.tmod 1500).toNat, by have := Int.tmod_nonneg 1500 hc.1; omega⟩
  have hn0 : n0 < 1500 := by have := Int.tmod_lt_of_pos c (b := 1500) (by omega); omega
  obtain ⟨n, hnn⟩ : ∃ n : Nat, n = n0 + 1 := ⟨_, rfl⟩
  have hwc : IntKind.i64.wrap c = c := by rw [IntKind.wrap_i64]; omega
  have hwn : IntKind.i64.wrap (1 + (n0 : Int)) = (n : Int) := by rw [IntKind.wrap_i64]; omega
  obtain ⟨i2, hi, hz0, hz1, hz2⟩ := info_parts info2
  have HI2 := Lib.hid (And.intro hi (And.intro hz0 (And.intro hz1 hz2)))
  clear hi hz0 hz1 hz2
  obtain ⟨i29, hi, hz0, hz1, hz2⟩ := info_parts info29
  have HI := Lib.hid (And.intro hi (And.intro hz0 (And.intro hz1 hz2)))
  clear hi hz0 hz1 hz2
  have HG := Lib.hid hG
  have HPW := Lib.hid hpw
  have HN : Hid (1 ≤ n ∧ n ≤ 1500) := ⟨by omega, by omega⟩
  obtain ⟨pa, pc, rfl, -, hpc⟩ := hp
  obtain ⟨va, vc, rfl, -, hvc⟩ := hv
  have HPC := Lib.hid hpc
  have HVC := Lib.hid hvc
  rw [List.length_map, List.length_map]
  clear hG hpw hc hnn hn0 hpc hvc
  go_enter Try.func6, Try.ntmps6
  by_cases c0 : 2147483647 < ps.length
  · have d0 : decide ((2147483647 : Int) < (ps.length : Int)) = true := by simp; omega
    go_wp2_with fail
    go_ret
    exact ⟨rfl, Below.refl _ _⟩
  have d0 : decide ((2147483647 : Int) < (ps.length : Int)) = false := by simp; omega
  by_cases c1 : 2147483647 < vs.length
  · have d1 : decide ((2147483647 : Int) < (vs.length : Int)) = true := by simp; omega
    go_wp2_with fail
    go_ret
    exact ⟨rfl, Below.refl _ _⟩
  have d1 : decide ((2147483647 : Int) < (vs.length : Int)) = false := by simp; omega
  by_cases c2 : 12 < ps.length
  · have d2 : decide ((12 : Int) < (ps.length : Int)) = true := by simp; omega
    go_wp2_with fail
    refine (awake _ HG.out).mono ?_
    rintro e w' ⟨rfl, hb⟩
    have HB := Lib.hid hb
    clear hb
    go_wp2_with fail
    go_ret
    exact ⟨rfl, HB.out⟩
  have d2 : decide ((12 : Int) < (ps.length : Int)) = false := by simp; omega
  by_cases c3 : vs.length = ps.length
  · have d3 : ((vs.length : Int) != (ps.length : Int)) = false := by simp; omega
    have HL : Hid (ps.length ≤ 12) := by show _ ≤ _; omega
    have HVL : Hid (vs.length = ps.length) := c3
    have HO0 := Lib.hid (stp_built w (B := w.heap.size) ⟨4, 0, n, 0, -3⟩ (Nat.le_refl _))
    have HB0 : Hid (Below w.heap.size w (w.alloc (.cells (Stp.cells ⟨4, 0, n, 0, -3⟩).toArray 29))) := (Below.refl _ w).alloc (Nat.le_refl _) _
    go_wp2_with fail
    have HW0 : Hid (∀ V : World, V = w.alloc (.cells (Stp.cells ⟨4, 0, n, 0, -3⟩).toArray 29) → V.ownsRow w.heap.size 29 5 (.slice (some ⟨w.heap.size, 0, none⟩) 1 1) 1 (Stp.cells ⟨4, 0, n, 0, -3⟩) ∧ Below w.heap.size w V) := fun V h => by rw [h]; exact ⟨HO0.out, HB0.out⟩
    clear HO0 HB0
    go_loopg [9, 42] n (fun k v9 i wr => ∃ j : Nat, j + k = n ∧ i = .int .i64 (j : Int) ∧ wr.ownsRow w.heap.size 2 1 v9 j ((up j (-3)).map (Value.int .i64)) ∧ wr.ownsRow w.heap.size 29 5 (.slice (some ⟨w.heap.size, 0, none⟩) 1 1) 1 (Stp.cells ⟨4, 0, n, 0, -3⟩) ∧ Below w.heap.size w wr)
    case atStart => exact ⟨0, by omega, rfl, World.ownsRow_nil _ _ _ _, (HW0.out _ rfl).1, (HW0.out _ rfl).2⟩
    case round =>
      clear HW0 hn hwc hwn d0 d1 d2 d3 c0 c1 c2 c3
      obtain ⟨j, hjk, rfl, ho, ho2, hb⟩ := hrel
      have HO := Lib.hid ho
      have HO2 := Lib.hid ho2
      have HB := Lib.hid hb
      clear ho ho2 hb
      have hw1 : IntKind.i64.wrap ((j : Int) + 1) = (j : Int) + 1 := by have := HN.out; rw [IntKind.wrap_i64]; omega
      by_cases hlt : j < n
      · have h1 : decide ((j : Int) < (n : Int)) = true := by simp; omega
        go_wp2_with (at_builtin; refine wpList_append_own _ rfl (.tmp 45) (.tmp 48) 32 rfl w.heap.size 2 i2 (.int .i64 0) 1 8 Try.underlying32 HI2.out.1 HI2.out.2.1 HI2.out.2.2.1 HI2.out.2.2.2 rfl (by decide) _ _ _ rfl (HO.out.alloc _) ⟨wr.heap.size, 0, none⟩ 1 1 [.int .i64 (wrap64 (-3 + (j : Int)))] rfl rfl (new_cell _ _ _) (one_oneCell rfl) (by have := HN.out; unfold maxLen; omega) (by have := HN.out; omega) (by have := HB.out.size; simp; omega) ?_)
        intro v2 w2 hown2 hgrow2 _
        have HO3 := Lib.hid hown2
        have HB3 := Lib.hid (below_grown (HB.out.alloc HB.out.size (.cells #[.int .i64 (wrap64 (-3 + (j : Int)))] 2)) HO.out (Nat.le_refl _) (Nat.le_refl _) hgrow2)
        have HS3 := Lib.hid ((HO2.out.alloc (.cells #[.int .i64 (wrap64 (-3 + (j : Int)))] 2)).kept hgrow2 (own_ne5 HO2.out HO.out))
        clear hown2 hgrow2
        go_wp2_with fail
        go_roundg (gk - 1)
        case measure => omega
        case rel =>
          refine ⟨j + 1, by omega, rfl, ?_, HS3.out, HB3.out⟩
          rw [up_succ, List.map_append]
          simpa using HO3.out
      · have h1 : decide ((j : Int) < (n : Int)) = false := by simp; omega
        obtain rfl : j = n := by omega
        have hnz : ¬ (j = 0) := by have := HN.out; omega
        clear hw1 hlt
        have ho9 := HO.out
        rcases ho9.2 with ⟨_, hz⟩ | ⟨gw, gcap, cur, rfl, -, -, -, -, -, -⟩
        · have := HN.out; omega
        clear ho9 cur
        go_wp2_with fail
        obtain ⟨f, hf⟩ : ∃ f : Nat → Nat, f = fun i => ((ps.getD i 0).tmod (j : Int)).toNat := ⟨_, rfl⟩
        obtain ⟨gv, hgv⟩ : ∃ gv : Nat → Int, gv = fun i => vs.getD i 0 := ⟨_, rfl⟩
        have HF := Lib.hid hf
        have HGV := Lib.hid hgv
        clear hf hgv
        have HFN : Hid (∀ i, i < ps.length → f i < j ∧ ((f i : Nat) : Int) = (ps.getD i 0).tmod (j : Int)) := fun i hi => by
          have hmem : ps.getD i 0 ∈ ps := by simp [List.getD, hi]
          have hr := HPW.out _ hmem
          have hj := HN.out
          have e : ((f i : Nat) : Int) = (ps.getD i 0).tmod (j : Int) := by rw [HF.out]; have := Int.tmod_nonneg (j : Int) hr.1; simp only; omega
          have h2 := Int.tmod_lt_of_pos (ps.getD i 0) (b := (j : Int)) (by omega)
          exact ⟨by omega, e⟩
        go_loopg [8, 53] ps.length (fun k v8 i wr => ∃ q : Nat, q + k = ps.length ∧ i = .int .i64 (q : Int) ∧ wr.ownsRow w.heap.size 2 1 (.slice (some ⟨gw, 0, none⟩) j gcap) j ((setW j f gv q).map (Value.int .i64)) ∧ wr.ownsRow w.heap.size 29 5 v8 (q + 1) ((setS j f gv q).flatMap Stp.cells) ∧ Below w.heap.size w wr)
        case atStart => exact ⟨0, by omega, rfl, HO.out, by simpa [setS] using HO2.out, HB.out⟩
        case round =>
          clear HO HO2 HB h1
          obtain ⟨q, hqk, rfl, ho, ho2, hb⟩ := hrel
          have HO := Lib.hid ho
          have HO2 := Lib.hid ho2
          have HB := Lib.hid hb
          clear ho ho2 hb
          have hw1 : IntKind.i64.wrap ((q : Int) + 1) = (q : Int) + 1 := by have := HL.out; rw [IntKind.wrap_i64]; omega
          by_cases hlt : q < ps.length
          · have h1 : decide ((q : Int) < (ps.length : Int)) = true := by simp; omega
            have hr0 := (HFN.out q hlt).1
            obtain ⟨p, hpp⟩ : ∃ p, ps[q]? = some p := ⟨ps[q], List.getElem?_eq_getElem hlt⟩
            obtain ⟨y, hy⟩ : ∃ y, vs[q]? = some y := ⟨vs[q]'(by rw [HVL.out]; exact hlt), List.getElem?_eq_getElem _⟩
            obtain ⟨pb, po, rfl, hpcell⟩ := HPC.out q (.int .u16 p) (by rw [List.getElem?_map, hpp]; rfl)
            obtain ⟨vb, vo, rfl, hvcell⟩ := HVC.out q (.int .i64 y) (by rw [List.getElem?_map, hy]; rfl)
            have HPCL := Lib.hid hpcell
            have HVCL := Lib.hid hvcell
            have HPBL : Hid (pb < w.heap.size) := World.block_lt_of_cell? w _ hpcell
            have hpcell' : wr.cell? ⟨pb, po + q, none⟩ = some (.int .u16 p) := (HB.out.cell (World.block_lt_of_cell? w _ hpcell)).trans hpcell
            have hvcell' : wr.cell? ⟨vb, vo + q, none⟩ = some (.int .i64 y) := (HB.out.cell (World.block_lt_of_cell? w _ hvcell)).trans hvcell
            have HVB : Hid (vb < w.heap.size) := World.block_lt_of_cell? w _ hvcell
            have hpr := HPW.out p (List.mem_of_getElem? hpp)
            have hwp : IntKind.i64.wrap p = p := by rw [IntKind.wrap_i64]; omega
            have hfq : p.tmod (j : Int) = (f q : Int) := by have := (HFN.out q hlt).2; simp only [List.getD, hpp, Option.getD_some] at this; exact this.symm
            have HGQ : Hid (gv q = y) := by show _ = _; rw [HGV.out]; simp [List.getD, hy]
            generalize hr : f q = r at hr0 hfq
            have HRQ := Lib.hid hr
            clear hr hpp hy hpcell hvcell hpr
            have hltv : (q : Int) < (vs.length : Int) := by have := HVL.out; omega
            have hltv' : q < vs.length := by have := HVL.out; omega
            go_upto_region 16 with (fail)
            have HR0 : Hid (Below w.heap.size w wr.drew) := HB.out.drew
            clear hpcell' hvcell'
            refine region_segsR (fun W => Below w.heap.size w W) [([0, 1, 2, 3, 4, 5, 6, 7, 8, 9, 10, 11], [12]), ([], [13]), ([], [14])] (by kernel_rfl) (by intro dst v c a w h; cases dst <;> exact h) (by kernel_rfl) HR0.out ?_
            refine r_segs ?_
            simp only [opsOf, List.getElem?_toArray, List.getElem?_cons_succ, List.getElem?_cons_zero]
            repeat (refine r_read ?_ (by kernel_rfl) ?_ (fun K hK => ?_); rotate_left 1; (intro W hR; have hq1 := (hR.cell HPBL.out).trans HPCL.out; have hq2 := (hR.cell HVB.out).trans HVCL.out; clear hR; go_simp; try with_reducible rfl); go_simp; refine hK _ ?_; clear hK K)
            refine r_nil1 ?_
            refine r_op rfl (fun K hK => ?_)
            go_simp
            have HR1 : Hid (Below w.heap.size w (wr.drew.alloc (.cells (Stp.cells ⟨2, (q : Int) + 1, r, 0, y⟩).toArray 29))) := HR0.out.alloc HB.out.size _
            refine hK _ _ HR1.out ?_
            clear hK K
            refine r_segs ?_
            simp only [opsOf]
            refine r_nil1 ?_
            refine r_op rfl (fun K hK => ?_)
            refine ite_yes (by kernel_rfl) ?_
            have HOD : Hid (wr.drew.ownsRow w.heap.size 2 1 (.slice (some ⟨gw, 0, none⟩) j gcap) j ((setW j f gv q).map (Value.int .i64))) := HO.out
            have HOD2 : Hid (wr.drew.ownsRow w.heap.size 29 5 u8 (q + 1) ((setS j f gv q).flatMap Stp.cells)) := HO2.out
            have HBD := Lib.hid HB.out.drew
            refine wp_append_own _ (.tmp 58) (.tmp 70) 30 rfl w.heap.size 29 i29 (.agg #[.int .u8 0, .int .i64 0, .int .i64 0, .int .i64 0, .int .i64 0]) 5 40 Try.underlying30 HI.out.1 HI.out.2.1 HI.out.2.2.1 HI.out.2.2.2 rfl (by decide) u8 (q + 1) ((setS j f gv q).flatMap Stp.cells) rfl (HOD2.out.alloc (.cells (Stp.cells ⟨2, (q : Int) + 1, r, 0, y⟩).toArray 29)) ⟨wr.heap.size, 0, none⟩ 1 1 (Stp.cells ⟨2, (q : Int) + 1, r, 0, y⟩) rfl rfl (stp_cells5 (w := wr.drew) _ _) (stp_one _) (by have := HL.out; unfold maxLen; omega) (by have := HL.out; omega) (by have := HB.out.size; simp; omega) ?_
            intro v2 w2 hown2 hgrow2 _
            have HO3 := Lib.hid hown2
            have HB3 := Lib.hid (below_grown (HBD.out.alloc HBD.out.size (.cells (Stp.cells ⟨2, (q : Int) + 1, r, 0, y⟩).toArray 29)) HOD2.out (Nat.le_refl _) (Nat.le_refl _) hgrow2)
            have HW3 := Lib.hid ((HOD.out.alloc (.cells (Stp.cells ⟨2, (q : Int) + 1, r, 0, y⟩).toArray 29)).kept hgrow2 (own_ne2 HOD.out HOD2.out))
            have hv2c : w2.cell? ⟨vb, vo + q, none⟩ = some (.int .i64 y) := (HB3.out.cell HVB.out).trans HVCL.out
            have hp2c : w2.cell? ⟨pb, po + q, none⟩ = some (.int .u16 p) := (HB3.out.cell HPBL.out).trans HPCL.out
            clear hown2 hgrow2 HOD HOD2 HBD HR0 HR1
            go_simp
            refine hK _ _ HB3.out ?_
            clear hK K
            refine r_segs ?_
            simp only [opsOf]
            refine r_nil1 ?_
            refine r_op rfl (fun K hK => ?_)
            go_simp
            refine hK _ _ HB3.out ?_
            clear hK K
            refine r_end ?_
            obtain ⟨x0, hx0⟩ : ∃ x0, (setW j f gv q)[r]? = some x0 := ⟨(setW j f gv q)[r]'(by rw [setW_len]; exact hr0), List.getElem?_eq_getElem _⟩
            have hcx := own_cell HW3.out (u := .int .i64 x0) (by rw [List.getElem?_map, hx0]; rfl)
            have hfx := own_free HW3.out hr0
            have hrj : (r : Int) < (j : Int) := by omega
            clear hx0
            go_upto_region 17 with (fail)
            refine region_tail 10 (by kernel_rfl) (by kernel_rfl) ?_
            simp only [List.take_succ_cons, List.take_zero, List.drop_succ_cons, List.drop_zero]
            repeat still_step
            refine wpStill_nil ?_
            go_wp2_with fail
            have HS4 : Hid ((w2.setCell ⟨gw, r, none⟩ (.int .i64 y)).drew.ownsRow w.heap.size 2 1 (.slice (some ⟨gw, 0, none⟩) j gcap) j (((setW j f gv q).set r y).map (Value.int .i64))) := own_set (w := w2) (v := y) HW3.out hr0
            have HB4 : Hid (Below w.heap.size w (w2.setCell ⟨gw, r, none⟩ (.int .i64 y)).drew) := (HB3.out.setCell (p := ⟨gw, r, none⟩) (HW3.out.lt gw rfl).1 _).drew
            have HO4 : Hid ((w2.setCell ⟨gw, r, none⟩ (.int .i64 y)).drew.ownsRow w.heap.size 29 5 v2 (q + 1 + 1) ((setS j f gv q).flatMap Stp.cells ++ Stp.cells ⟨2, (q : Int) + 1, r, 0, y⟩)) := World.ownsRow.kept (w' := w2.setCell ⟨gw, r, none⟩ (.int .i64 y)) HO3.out (grown_set _ _ _ _) (own_ne5 HO3.out HW3.out)
            go_roundg (gk - 1)
            case measure => omega
            case rel =>
              refine ⟨q + 1, by omega, rfl, ?_, ?_, HB4.out⟩
              · rw [setW, HRQ.out, HGQ.out]
                exact HS4.out
              · rw [setS, HRQ.out, HGQ.out, List.flatMap_append]
                simpa [List.flatMap_cons, List.flatMap_nil] using HO4.out
          · have h1 : decide ((q : Int) < (ps.length : Int)) = false := by simp; omega
            obtain rfl : q = ps.length := by omega
            clear HPC HVC hw1 hnz
            have hR := setRun j f gv HN.out.2 ps.length (fun i hi => (HFN.out i hi).1)
            have hsl := setS_len j f gv ps.length
            have hwl := setW_len j f gv ps.length
            have hvl := versRun_len (setS j f gv ps.length) ([[]], [])
            rw [hsl] at hvl
            simp only [List.length_cons, List.length_nil, Nat.zero_add] at hvl
            have HSW := Lib.hid (StpW.of_own HO2.out hsl.symm)
            have HSV := Lib.hid (SlV.of_own HO.out)
            generalize setS j f gv ps.length = steps at hR hsl hvl HSW
            generalize setW j f gv ps.length = want at hR hwl HSV
            obtain ⟨hR1, hR2⟩ := hR
            have hu8 : ∃ ua uc, u8 = .slice ua steps.length uc := by
              rcases HSW.out with ⟨h1, h2⟩ | ⟨sb, so, cap, h1, _⟩
              · exact ⟨none, 0, by rw [h1, h2]; rfl⟩
              · exact ⟨_, _, h1⟩
            obtain ⟨ua, uc, rfl⟩ := hu8
            have HRUN := Lib.hid (listRun_s wr (.slice none 0 0) 0 [] steps _ HSW.out (new0 _) (by rw [hsl]; have := HL.out; omega) (HG.out.stay (Stay.of_below HB.out)))
            rw [hR2] at HRUN
            have HR1 := Lib.hid hR1
            have HWL := Lib.hid hwl
            have HSL := Lib.hid hsl
            have HVLL := Lib.hid hvl
            clear hR1 hR2 hwl hsl hvl HO HO2
            go_wp2_with fail
            refine HRUN.out.mono ?_
            rintro e2 w3 ⟨l, p', rfl, hb3, ⟨gl, gcap2, rfl, hol⟩, ⟨pa2, pc2, rfl, hpp⟩⟩
            have HB3 := Lib.hid (HB.out.trans (hb3.mono HB.out.size))
            have HSV3 := Lib.hid (HSV.out.below hb3)
            have HG3 : Hid (Glob w3) := HG.out.stay (Stay.of_below HB3.out)
            obtain ⟨al, cl, hcl, hsl2⟩ := hol (ps.length + 1) want HR1.out
            have HSL2 := Lib.hid hsl2
            obtain ⟨pg, po, hpe, -⟩ := hpp 0 (.bool false) (by simp)
            subst hpe
            have HCO := Lib.hid (contains_w pg po (ps.length + 1) pc2 w3 (by have := HL.out; omega) (fun i hi => by
              obtain ⟨g', o', he, hc'⟩ := hpp i (.bool false) (by simp [hi])
              simp only [Option.some.injEq, Addr.mk.injEq, and_true] at he
              obtain ⟨rfl, rfl⟩ := he
              exact hc'))
            have hcl' : w3.cell? ⟨gl, steps.length, none⟩ = some (.slice al want.length cl) := by rw [HSL.out]; exact hcl
            have hle : (steps.length : Int) < (((versRun steps ([[]], [])).1.length : Nat) : Int) := by rw [HSL.out, HVLL.out]; omega
            have hlv : ((((versRun steps ([[]], [])).1.length : Nat) : Int) == (steps.length : Int) + 1) = true := by rw [HSL.out, HVLL.out]; simp
            have hws : IntKind.i64.wrap ((steps.length : Int) + 1) = (steps.length : Int) + 1 := by rw [HSL.out, IntKind.wrap_i64]; have := HL.out; omega
            have hlen2 : ((List.replicate (ps.length + 1) false).map Value.bool).length = ps.length + 1 := by simp
            rw [hlen2]
            clear hb3 hol hcl hsl2 hpp HRUN HB HSV hlen2
            generalize (versRun steps ([[]], [])).1.length = nv at hle hlv
            generalize steps.length = ns at hcl' hle hlv hws
            have hlen' : ns < nv := by omega
            go_wp2_with fail
            refine HCO.out.mono ?_
            rintro e3 w4 ⟨rfl, rfl⟩
            go_wp2_with fail
            refine (equal_ints (xs := want) (ys := want) HSL2.out HSV3.out (by rw [HWL.out]; have := HN.out; omega)).mono ?_
            rintro e5 w5 ⟨he5, hs5⟩
            rw [decide_eq_true rfl] at he5
            subst he5
            have HS5 := Lib.hid hs5
            clear hs5
            go_wp2_with fail
            refine (awake _ (HG3.out.stay (Stay.of_below (HS5.out.below _)))).mono ?_
            rintro e6 w6 ⟨rfl, hb6⟩
            have HB6 := Lib.hid ((HB3.out.trans (HS5.out.below _)).trans (hb6.mono (HB3.out.trans (HS5.out.below _)).size))
            clear hb6
            go_wp2_with fail
            go_ret
            exact ⟨rfl, HB6.out⟩
  · have d3 : ((vs.length : Int) != (ps.length : Int)) = true := by simp; omega
    go_wp2_with fail
    refine (awake _ HG.out).mono ?_
    rintro e w' ⟨rfl, hb⟩
    have HB := Lib.hid hb
    clear hb
    go_wp2_with fail
    go_ret
    exact ⟨rfl, HB.out⟩

end Go.Proofs.Ytnahipfdnadccaa
