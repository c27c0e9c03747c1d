/- The walk over the law FnListWalk. Conditions of this file: none. -/
import Derived.Test.YtnahipfdnadccaaWlkB
import Derived.Test.YtnahipfdnadccaaVsn
import Derived.Test.YtnahipfdnadccaaJoinP
namespace Go.Proofs.Ytnahipfdnadccaa
open Go.RowKit

theorem vers_s (w : World) (v0 : Value) (n0 : Nat) (xs0 : List Int) (steps : List Stp) (sv : Value) (hs : StpW w sv steps)
    (hnew : Calls Try.prog 55 #[v0] w (ListPost w n0 xs0)) (hn : n0 + 100000 * (steps.length + 1) < 33554431) (hG : Glob w) :
    ∃ n, Calls Try.prog 29 #[v0, sv] w fun e w' => ∃ l p, e = .returned (.tuple #[l, p]) ∧ Vers w n (versRun steps ([xs0], [])).1 (versRun steps ([xs0], [])).2 l p w' := by
  rcases hs with ⟨rfl, rfl⟩ | ⟨sb, so, cap, rfl, h1, h2⟩
  · exact ⟨_, vers_nil w v0 n0 xs0 hnew⟩
  · exact ⟨_, vers_w w v0 n0 xs0 _ steps sb so cap rfl h1 h2 hnew hn hG⟩

theorem sn65_cells {w : World} {B n : Nat} {v : Value} {sn : List Sn} (h : w.ownsRow B 65 4 v n (sn.flatMap Sn.cells)) (hn : n = sn.length) : SnW w v sn := SnW.of_own h hn

set_option maxRecDepth 100000 in
set_option maxHeartbeats 4000000 in
theorem wlk_w (u sv mv : Value) (ver : Int) (xs0 : List Int) (steps : List Stp) (moves : List Mov) (w : World) (hu : SlN w u (xs0.map (Value.int .i64))) (hs : StpV w sv steps) (hm : MovV w mv moves) (hver : 0 ≤ ver ∧ ver ≤ 255) (hG : Glob w) :
    Calls Try.prog 12 #[u, sv, .int .u8 ver, mv] w fun e w' => e = .returned (.bool true) ∧ Below w.heap.size w w' := by
  have HS := Lib.hid hs
  have HU := Lib.hid hu
  have HM := Lib.hid hm
  have HVER := Lib.hid hver
  obtain ⟨ua, uc, rfl, -, -⟩ := hu
  rw [List.length_map] at HU ⊢
  have HG := Lib.hid hG
  obtain ⟨a, cap, rfl, -⟩ := hs
  obtain ⟨ma, mcap, rfl, -⟩ := hm
  have hwv : IntKind.i64.wrap ver = ver := by rw [IntKind.wrap_i64]; omega
  clear hG hver
  go_enter Try.func12, Try.ntmps12
  by_cases c0 : 2147483647 < xs0.length
  · have d0 : decide ((2147483647 : Int) < (xs0.length : Int)) = true := by simp; omega
    go_wp2_with fail
    go_ret
    exact ⟨rfl, Below.refl _ _⟩
  have d0 : decide ((2147483647 : Int) < (xs0.length : Int)) = false := by simp; omega
  by_cases c1 : 2147483647 < steps.length
  · have d1 : decide ((2147483647 : Int) < (steps.length : Int)) = true := by simp; omega
    go_wp2_with fail
    go_ret
    exact ⟨rfl, Below.refl _ _⟩
  have d1 : decide ((2147483647 : Int) < (steps.length : Int)) = false := by simp; omega
  by_cases c3 : 2147483647 < moves.length
  · have d3 : decide ((2147483647 : Int) < (moves.length : Int)) = true := by simp; omega
    go_wp2_with fail
    go_ret
    exact ⟨rfl, Below.refl _ _⟩
  have d3 : decide ((2147483647 : Int) < (moves.length : Int)) = false := by simp; omega
  by_cases c2 : 20 < steps.length
  · have d2 : decide ((20 : Int) < (steps.length : Int)) = true := by simp; omega
    go_wp2_with fail
    refine (awake _ HG.out).mono ?_
    rintro e w' ⟨rfl, hb⟩
    have HB := Lib.hid hb
    clear hb
    go_wp2_with fail
    go_ret
    exact ⟨rfl, HB.out⟩
  have d2 : decide ((20 : Int) < (steps.length : Int)) = false := by simp; omega
  by_cases c4 : 40 < moves.length
  · have d4 : decide ((40 : Int) < (moves.length : Int)) = true := by simp; omega
    go_wp2_with fail
    refine (awake _ HG.out).mono ?_
    rintro e w' ⟨rfl, hb⟩
    have HB := Lib.hid hb
    clear hb
    go_wp2_with fail
    go_ret
    exact ⟨rfl, HB.out⟩
  have d4 : decide ((40 : Int) < (moves.length : Int)) = false := by simp; omega
  have HV := Lib.hid (versions_w (.slice ua xs0.length uc) (.slice a steps.length cap) xs0 steps 300 4000 w HU.out HS.out (by omega) (by omega) (by omega) (by omega))
  have HL : Hid (steps.length ≤ 20) := by show _ ≤ _; omega
  have HML : Hid (moves.length ≤ 40) := by show _ ≤ _; omega
  go_wp2_with fail
  refine HV.out.mono ?_
  rintro e w1 ⟨l, p, ok, rfl, hb1, hok⟩
  have HB1 := Lib.hid hb1
  have HOK := Lib.hid hok
  clear hb1 hok HV c0 d0 c1 d1 c3 d3 c2 d2 c4 d4
  cases ok with
  | false =>
    go_wp2_with fail
    refine (awake _ (HG.out.stay (Stay.of_below HB1.out))).mono ?_
    rintro e w' ⟨rfl, hb⟩
    have HB := Lib.hid (HB1.out.trans (hb.mono HB1.out.size))
    clear hb
    go_wp2_with fail
    go_ret
    exact ⟨rfl, HB.out⟩
  | true =>
    obtain ⟨T, hT, hSV⟩ := HOK.out rfl
    clear HOK
    have hbig : ∀ (i : Nat) (xs : List Int), (versRun steps ([xs0], [])).1[i]? = some xs → xs.length ≤ 1000000 := fun i xs hi => by have := (hSV.outer (versRun_ne' _ _)).2 i xs hi; omega
    have HXB : Hid (xs0.length ≤ 4000) := by show _ ≤ _; have := (hSV.outer (versRun_ne' _ _)).2 0 xs0 (versRun_0 _ _); omega
    have hvl : (versRun steps ([xs0], [])).1.length = steps.length + 1 := by rw [versRun_len]; simp
    obtain ⟨g, gc, rfl, hcells⟩ := (hSV.outer (versRun_ne' _ _)).1
    obtain ⟨V, hV⟩ : ∃ V, V = (versRun steps ([xs0], [])).1.length := ⟨_, rfl⟩
    rw [← hV]
    have hV0 : ¬ (V = 0) := by omega
    obtain ⟨k, hk⟩ : ∃ k : Nat, ver.tmod V = k := ⟨(ver.tmod V).toNat, by have := Int.tmod_nonneg V HVER.out.1; omega⟩
    have hkV : k < V := by have := Int.tmod_lt_of_pos ver (b := V) (by omega); omega
    obtain ⟨X, hX⟩ : ∃ X, (versRun steps ([xs0], [])).1[k]? = some X := ⟨_, List.getElem?_eq_getElem (by omega)⟩
    obtain ⟨xa, xc, hcell, hXV⟩ := hcells k X hX
    have HXL := Lib.hid (hbig k X hX)
    have HX := Lib.hid hX
    have HVN : Hid (V = (versRun steps ([xs0], [])).1.length ∧ V ≤ 21) := ⟨hV, by have := HL.out; omega⟩
    have HLW := Lib.hid (listWalk_w _ _ X moves w1 hXV (HM.out.below HB1.out) (by have := HML.out; omega) (by have := HXL.out; omega))
    have HCE := Lib.hid hcell
    have HXV := Lib.hid hXV
    have hkk : decide ((k : Int) < (V : Int)) = true := by simp; omega
    clear hSV hbig hvl hcells hV hX hXV hT
    go_wp2_with fail
    refine HLW.out.mono ?_
    rintro e w2 ⟨sn, ok, rfl, hb2, hok⟩
    have HB2 : Hid (Below w.heap.size w w2) := HB1.out.trans (hb2.mono HB1.out.size)
    have HC2 : Hid (w2.cell? ⟨g, k, none⟩ = some (.slice xa X.length xc)) := (hb2.cell (World.block_lt_of_cell? w1 _ hcell)).trans hcell
    have HOK := Lib.hid hok
    clear hb2 hok HLW hcell
    cases ok with
    | false =>
      go_wp2_with fail
      refine (awake _ (HG.out.stay (Stay.of_below HB2.out))).mono ?_
      rintro e w' ⟨rfl, hb⟩
      have HB := Lib.hid (HB2.out.trans (hb.mono HB2.out.size))
      clear hb
      go_wp2_with fail
      go_ret
      exact ⟨rfl, HB.out⟩
    | true =>
      obtain ⟨hk4, hrow⟩ := HOK.out rfl
      have HK4 := Lib.hid hk4
      have hSL := mvs_len X moves (0, [])
      obtain ⟨S, hS⟩ : ∃ S, S = (mvs X moves (0, [])).2 := ⟨_, rfl⟩
      rw [← hS] at hrow hSL
      have hSL' : moves.length = S.length := by simpa using hSL.symm
      have HWANT := Lib.hid (SnW.of_own hrow hSL')
      have HSE := Lib.hid hS
      have HSL := Lib.hid hSL'
      clear HOK hk4 hrow hS hSL hSL'
      go_wp2_with fail
      refine (listTo_w _ steps w2 (HS.out.below HB2.out) (by have := HL.out; omega)).mono ?_
      rintro e w3 ⟨vS, rfl, hv, hb3⟩
      have HVS := Lib.hid hv
      have HB3 := Lib.hid hb3
      have HB3' := Lib.hid (HB2.out.trans (hb3.mono HB2.out.size))
      clear hv hb3
      go_wp2_with fail
      refine (moveTo_w _ moves w3 (HM.out.below HB3'.out) (by have := HML.out; omega)).mono ?_
      rintro e w4 ⟨vM, rfl, hv, hb4⟩
      have HVM := Lib.hid hv
      have HB4 := Lib.hid hb4
      have HB4' := Lib.hid (HB3'.out.trans (hb4.mono HB3'.out.size))
      clear hv hb4
      obtain ⟨N, hVers⟩ := vers_s w4 (.slice ua xs0.length uc) xs0.length xs0 steps vS (StpW.below HVS.out HB4.out) (new_list _ xs0 w4 (HU.out.below HB4'.out).slv (by have := HXB.out; omega)) (by have := HL.out; have := HXB.out; omega) (HG.out.stay (Stay.of_below HB4'.out))
      have HIT := Lib.hid (iterate_w w4 (.slice ua xs0.length uc) vS vM N k _ _ X moves (by have := HVN.out; omega) HX.out HVM.out HK4.out (by have := HML.out; omega) hVers)
      clear hVers
      go_wp2_with fail
      refine HIT.out.mono ?_
      rintro e w5 ⟨sn5, rfl, hb5, hrow⟩
      have hb25 : Below w2.heap.size w2 w5 := (HB3.out.trans (HB4.out.mono HB3.out.size)).trans (hb5.mono (Nat.le_trans HB3.out.size HB4.out.size))
      have HB5 : Hid (Below w.heap.size w w5) := HB4'.out.trans (hb5.mono HB4'.out.size)
      rw [← HSE.out, HSL.out] at hrow
      have hseen := SnW.of_own hrow rfl
      have hc5 : w5.cell? ⟨g, k, none⟩ = some (.slice xa X.length xc) := (hb25.cell (World.block_lt_of_cell? w2 _ HC2.out)).trans HC2.out
      have hlen1 : ∃ xa xc, sn5 = .slice xa S.length xc := by
        rcases hseen with ⟨h, h0⟩ | ⟨_, _, _, h, _⟩
        · exact ⟨none, 0, by rw [h, h0]; rfl⟩
        · exact ⟨_, _, h⟩
      have hlen2 : ∃ xa xc, sn = .slice xa S.length xc := by
        rcases HWANT.out with ⟨h, h0⟩ | ⟨_, _, _, h, _⟩
        · exact ⟨none, 0, by rw [h, h0]; rfl⟩
        · exact ⟨_, _, h⟩
      obtain ⟨z1, z2, rfl⟩ := hlen1
      obtain ⟨z3, z4, rfl⟩ := hlen2
      have HSEEN := Lib.hid hseen
      have HB25 := Lib.hid hb25
      obtain ⟨XL, hXL⟩ : ∃ XL, XL = X.length := ⟨_, rfl⟩
      rw [← hXL] at hc5 ⊢
      obtain ⟨b, hb⟩ : ∃ b, b = isDone 0 XL := ⟨_, rfl⟩
      rw [← hb]
      have hbe : ((XL : Int) == 0) = b := by
        rw [hb, Bool.eq_iff_iff]; simp [isDone]
      have hbb : (b != b) = false := by simp
      obtain ⟨SL, hSLn⟩ : ∃ SL, SL = S.length := ⟨_, rfl⟩
      rw [← hSLn]
      have hss : ((SL : Int) != (SL : Int)) = false := by simp
      have HSN := Lib.hid hSLn
      clear hrow hseen hb25 hb5 HIT hb hXL hSLn
      go_wp2_with fail
      clear hc5
      go_loopg [95] SL (fun q v95 wr => ∃ j : Nat, j + q = SL ∧ v95 = .int .i64 (j : Int) ∧ Below w5.heap.size w5 wr)
      case atStart => exact ⟨0, by omega, rfl, Below.refl _ _⟩
      case round =>
        obtain ⟨j, hjk, rfl, hb⟩ := hrel
        have HB := Lib.hid hb
        clear hb
        have hw1 : IntKind.i64.wrap ((j : Int) + 1) = ((j + 1 : Nat) : Int) := by have := HSN.out; have := HSL.out; have := HML.out; rw [IntKind.wrap_i64]; omega
        by_cases hlt : j < SL
        · have h1 : decide ((j : Int) < (SL : Int)) = true := by simp; omega
          have hjS : j < S.length := by have := HSN.out; omega
          obtain ⟨⟨ix, vl, pn, dn⟩, hs⟩ : ∃ s, S[j]? = some s := ⟨S[j]'hjS, List.getElem?_eq_getElem _⟩
          rcases HSEEN.out with ⟨_, h0⟩ | ⟨qb, qo, qc, heq, hqb, hqc⟩
          · rw [h0] at hjS; simp at hjS
          rcases HWANT.out with ⟨_, h0⟩ | ⟨fb, fo, fc, heq2, hfb, hfc⟩
          · rw [h0] at hjS; simp at hjS
          simp only [Value.slice.injEq] at heq heq2
          obtain ⟨rfl, -, rfl⟩ := heq
          obtain ⟨rfl, -, rfl⟩ := heq2
          have hfb5 : fb < w5.heap.size := Nat.lt_of_lt_of_le hfb HB25.out.size
          have e0 : wr.cell? ⟨qb, qo + j * 4, none⟩ = some (.int .i64 ix) := (HB.out.cell hqb).trans (hqc j _ hs 0 _ rfl)
          have e1 : wr.cell? ⟨qb, qo + j * 4 + 1, none⟩ = some (.int .i64 vl) := (HB.out.cell hqb).trans (hqc j _ hs 1 _ rfl)
          have e2 : wr.cell? ⟨qb, qo + j * 4 + 2, none⟩ = some (.bool pn) := (HB.out.cell hqb).trans (hqc j _ hs 2 _ rfl)
          have e3 : wr.cell? ⟨qb, qo + j * 4 + 3, none⟩ = some (.bool dn) := (HB.out.cell hqb).trans (hqc j _ hs 3 _ rfl)
          have f0 : wr.cell? ⟨fb, fo + j * 4, none⟩ = some (.int .i64 ix) := (HB.out.cell hfb5).trans ((HB25.out.cell hfb).trans (hfc j _ hs 0 _ rfl))
          have f1 : wr.cell? ⟨fb, fo + j * 4 + 1, none⟩ = some (.int .i64 vl) := (HB.out.cell hfb5).trans ((HB25.out.cell hfb).trans (hfc j _ hs 1 _ rfl))
          have f2 : wr.cell? ⟨fb, fo + j * 4 + 2, none⟩ = some (.bool pn) := (HB.out.cell hfb5).trans ((HB25.out.cell hfb).trans (hfc j _ hs 2 _ rfl))
          have f3 : wr.cell? ⟨fb, fo + j * 4 + 3, none⟩ = some (.bool dn) := (HB.out.cell hfb5).trans ((HB25.out.cell hfb).trans (hfc j _ hs 3 _ rfl))
          have hfr : fb < wr.heap.size := Nat.lt_of_lt_of_le hfb5 HB.out.size
          clear hqc hfc hs hqb hfb hfb5 hjS
          go_upto_region 18 with (fail)
          have hA : Below wr.heap.size wr (wr.alloc (.cells #[.int .i64 ix, .int .i64 vl, .bool pn, .bool dn] 59)) := (Below.refl _ wr).alloc (Nat.le_refl _) _
          have hq := heap_alloc_last wr (.cells #[.int .i64 ix, .int .i64 vl, .bool pn, .bool dn] 59)
          replace f0 := (hA.cell hfr).trans f0
          replace f1 := (hA.cell hfr).trans f1
          replace f2 := (hA.cell hfr).trans f2
          replace f3 := (hA.cell hfr).trans f3
          have HBX := Lib.hid (HB.out.trans (hA.mono HB.out.size))
          clear e0 e1 e2 e3 hA hfr HB
          generalize wr.alloc (.cells #[.int .i64 ix, .int .i64 vl, .bool pn, .bool dn] 59) = Y at hq f0 f1 f2 f3 HBX ⊢
          generalize wr.heap.size = qz at hq ⊢
          have s0 := cell_at (j := 0) hq rfl
          have s1 := cell_at (j := 1) hq rfl
          have s2 := cell_at (j := 2) hq rfl
          have s3 := cell_at (j := 3) hq rfl
          clear hq
          refine region_still (by kernel_rfl) (by kernel_rfl) (Veil.out ?_)
          repeat (refine v_step (fun K hK => ?_); go_simp; refine hK _ ?_; clear hK K)
          refine v_nil ⟨?_⟩
          go_wp2_with fail
          go_roundg (gk - 1)
          case measure => omega
          case rel => exact ⟨j + 1, by omega, rfl, HBX.out.drew⟩
        · have h1 : decide ((j : Int) < (SL : Int)) = false := by simp; omega
          go_wp2_with fail
          refine (awake _ (HG.out.stay (Stay.of_below (HB5.out.trans (HB.out.mono HB5.out.size))))).mono ?_
          rintro e w' ⟨rfl, hb⟩
          have HBF := Lib.hid (HB5.out.trans ((HB.out.mono HB5.out.size).trans (hb.mono (Nat.le_trans HB5.out.size HB.out.size))))
          clear hb
          go_wp2_with fail
          go_ret
          exact ⟨rfl, HBF.out⟩
end Go.Proofs.Ytnahipfdnadccaa
