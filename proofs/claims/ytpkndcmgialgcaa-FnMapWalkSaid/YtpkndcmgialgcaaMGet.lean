/- The walk over the law FnMapGet. -/
import Derived.Test.YtpkndcmgialgcaaGetM
namespace Go.Proofs.Ytpkndcmgialgcaa
open Go.RowKit Go.Maps

theorem gm_look_any {w : World} {mb : Nat} {es : List (Int × Int)} {k : Int} (g : GM w mb es) (ho : Once es) (hw : Wf k) :
    (Instr.lookup 39 (.map (some mb)) (.int .i64 k) true).run Try.prog w = .ok (.tuple #[.int .i64 ((look es k).getD 0), .bool (look es k).isSome]) w := by
  cases hv : look es k with
  | some v => exact gm_look_ok g ho hw hv
  | none =>
    obtain ⟨D, h1, hd⟩ := g
    obtain ⟨u, ps, hrun, hu⟩ := h1.look_ok key2 Try.underlying39 (zero2 w) (plainElem_int (a := 0) Try.underlying2 (by decide)) (keyOf_int_mk Try.underlying2 hw)
    obtain ⟨c, rfl, hc, _⟩ := plainElem_int_inv Try.underlying2 hu
    simp only [Prod.mk.injEq] at hc
    have h5 : Maps.has D (.int .i64 k) = false := by
      have := hd.has k
      unfold kl at this
      rw [this, has_look ho, hv]
      rfl
    have h3 := hc.1
    rw [atKey_of_not_has h5] at h3
    have h4 : (0 : Int) = c := by simpa using h3
    rw [hrun, h5, ← h4]
    rfl

theorem own_len {w : World} {B s n : Nat} {e : TypeId} {cs : List Value} {v : Value} (h : w.ownsRow B e s v n cs) : ∃ a c, v = .slice a n c := by
  rcases h.2 with ⟨h1, h0⟩ | ⟨g, cap, cur, h9, _⟩
  · exact ⟨none, 0, by rw [h1, h0]⟩
  · exact ⟨_, cap, h9⟩
theorem own_get {w : World} {B n i : Nat} {e : TypeId} {cs : List Value} {u : Value} {a : Option Addr} {c : Nat} (h : w.ownsRow B e 1 (.slice a n c) n cs) (hn : n = cs.length) (hi : cs[i]? = some u) : ∃ g, a = some ⟨g, 0, none⟩ ∧ w.cell? ⟨g, i, none⟩ = some u := by
  have hlt := (List.getElem?_eq_some_iff.1 hi).1
  obtain ⟨g, cap, h9⟩ := own_shape h (by omega)
  simp only [Value.slice.injEq] at h9
  obtain ⟨rfl, -, rfl⟩ := h9
  exact ⟨g, rfl, own_cell h hi⟩

set_option maxRecDepth 100000 in
set_option maxHeartbeats 3200000 in
theorem mget_w (mo mu sh : Int) (_hmo : 0 ≤ mo) (hsh : 0 ≤ sh) (sv : Value) (steps : List Stp) (hwf : ∀ s ∈ steps, Wf s.K ∧ Wf s.V) (c : Int) (hc0 : 0 ≤ c) (hc1 : c ≤ 255) (kv : Value) (xs : List Int) (hxw : ∀ n ∈ xs, Wf n) (w : World) (hs : StpV w sv steps) (hxs : IntsV w kv xs) :
    Calls Try.prog 13 #[av mo mu sh, sv, .int .u8 c, kv] w fun e w' => e = .returned (.bool true) ∧ Below w.heap.size w w' := by
  have HS := Lib.hid hs
  have HWF := Lib.hid hwf
  have HXW := Lib.hid hxw
  have HK := Lib.hid hxs
  obtain ⟨a, cap, rfl, -⟩ := hs
  obtain ⟨ka, kc, rfl, -⟩ := hxs
  have hA : Below w.heap.size w (w.alloc (.cells #[.int .u32 mo, .int .u32 mu, .int .u8 sh] 24)) := (Below.refl _ _).alloc (Nat.le_refl _) _
  have HX := Lib.hid (heap_alloc_last w (.cells #[.int .u32 mo, .int .u32 mu, .int .u8 sh] 24))
  have HA := Lib.hid hA
  have HS2 := Lib.hid (HS.out.below hA)
  have HK2 := Lib.hid (HK.out.below hA)
  clear hwf hA HS HK hxw
  unfold av
  go_enter Try.func13, Try.ntmps13
  go_upto_region 1 with (fail)
  generalize w.alloc (.cells #[.int .u32 mo, .int .u32 mu, .int .u8 sh] 24) = X at HA HX HS2 HK2 ⊢
  obtain ⟨bx, hbx⟩ : ∃ bx, bx = w.heap.size := ⟨_, rfl⟩
  rw [← hbx] at HX ⊢
  clear hbx
  by_cases c1 : 2147483647 < steps.length
  · have d1 : decide ((2147483647 : Int) < (steps.length : Int)) = true := by simp; omega
    go_wp2_with fail
    refine bodyPost_ret (results_tmp rfl _ _ _) rfl ?_
    exact ⟨rfl, HA.out⟩
  have d1 : decide ((2147483647 : Int) < (steps.length : Int)) = false := by simp; omega
  by_cases c2 : 2147483647 < xs.length
  · have d2 : decide ((2147483647 : Int) < (xs.length : Int)) = true := by simp; omega
    go_wp2_with fail
    refine bodyPost_ret (results_tmp rfl _ _ _) rfl ?_
    exact ⟨rfl, HA.out⟩
  have d2 : decide ((2147483647 : Int) < (xs.length : Int)) = false := by simp; omega
  have s0 := cell_at (j := 0) HX.out rfl
  have s1 := cell_at (j := 1) HX.out rfl
  have s2 := cell_at (j := 2) HX.out rfl
  obtain ⟨rt, hrt⟩ : ∃ rt, rt = (decide (0 < mo) && decide (sh < 32)) := ⟨_, rfl⟩
  have HRT := Lib.hid hrt
  have HHR := Lib.hid (hashRight_w mo mu sh X rt hrt)
  clear hrt
  go_upto_region 3 with (fail)
  go_cut [38] from 26 to 38 (fun v wc => ∃ b, v = .bool b ∧ (b = false → steps.length ≤ 30 ∧ rt = true ∧ xs.length ≤ 60) ∧ Below X.heap.size X wc)
  case first =>
    by_cases c3 : 30 < steps.length
    · have d3 : decide ((30 : Int) < (steps.length : Int)) = true := by simp; omega
      clear HHR HA HX HS2 HK2
      go_wp2_with fail
      go_meet
      case rel => exact ⟨true, rfl, nofun, Below.refl _ _⟩
    · have d3 : decide ((30 : Int) < (steps.length : Int)) = false := by simp; omega
      go_wp2_with fail
      refine HHR.out.mono ?_
      rintro e w1 ⟨rfl, hb1⟩
      have HB1 := Lib.hid hb1
      clear hb1 HHR s0 s1 s2 HX HS2 HA HK2
      cases rt with
      | false =>
        go_wp2_with fail
        go_meet
        case rel => exact ⟨true, rfl, nofun, HB1.out⟩
      | true =>
        by_cases c4 : 60 < xs.length
        · have d4 : decide ((60 : Int) < (xs.length : Int)) = true := by simp; omega
          go_wp2_with fail
          go_meet
          case rel => exact ⟨true, rfl, nofun, HB1.out⟩
        · have d4 : decide ((60 : Int) < (xs.length : Int)) = false := by simp; omega
          go_wp2_with fail
          go_meet
          case rel => exact ⟨false, rfl, fun _ => by refine ⟨by omega, ?_, by omega⟩; first | rfl | trivial, HB1.out⟩
  case rest =>
  obtain ⟨b, rfl, hbf, hb1⟩ := hcut
  obtain ⟨w1, rfl⟩ : ∃ w1 : World, w1 = wc := ⟨_, rfl⟩
  clear s0 s1 s2
  have HX1 := Lib.hid (below_at hb1 HX.out)
  have HS1 := Lib.hid (HS2.out.below hb1)
  have HK1 := Lib.hid (HK2.out.below hb1)
  have HB1 : Hid (Below w.heap.size w w1) := HA.out.trans (hb1.mono HA.out.size)
  clear hb1 HHR HX HS2 HA HK2
  cases b with
  | true =>
    clear hbf
    go_wp2_with fail
    refine (awake_w _).mono ?_
    rintro e w' ⟨rfl, hb⟩
    have HB : Hid (Below w.heap.size w w') := HB1.out.trans (hb.mono HB1.out.size)
    clear hb
    go_wp2_with fail
    refine bodyPost_ret (results_tmp rfl _ _ _) rfl ?_
    exact ⟨rfl, HB.out⟩
  | false =>
    obtain ⟨q1, q2, q3⟩ := hbf rfl
    subst q2
    have HL : Hid (steps.length ≤ 30) := q1
    have HXL : Hid (xs.length ≤ 60) := q3
    obtain ⟨g1, g2⟩ : 0 < mo ∧ sh < 32 := by
      have := HRT.out.symm
      simpa using this
    have HH := Lib.hid (hash_is (mo := mo) (mu := mu) (sh := sh) (by omega) hsh g2)
    have h0 : (mo == 0) = false := by simp; omega
    have H0 := Lib.hid h0
    have HV := Lib.hid (mapVersions_w (hn mo mu sh) (.slice a steps.length cap) steps 200 3000 w1 HS1.out (by have := HL.out; omega) (by decide) (by decide) HWF.out)
    clear q1 q3 g1 g2 h0 hbf
    go_wp2_with fail
    refine HV.out.mono ?_
    rintro e w2 ⟨l, ok, rfl, hb2, hok⟩
    have HOK := Lib.hid hok
    have HX2 := Lib.hid (below_at hb2 HX1.out)
    have HS3 := Lib.hid (HS1.out.below hb2)
    have HK3 := Lib.hid (HK1.out.below hb2)
    have HB2 : Hid (Below w.heap.size w w2) := HB1.out.trans (hb2.mono HB1.out.size)
    clear hb2 hok HV HX1 HS1 HB1 HK1
    cases ok with
    | false =>
      go_wp2_with fail
      refine (awake_w _).mono ?_
      rintro e w' ⟨rfl, hb⟩
      have HB : Hid (Below w.heap.size w w') := HB2.out.trans (hb.mono HB2.out.size)
      clear hb
      go_wp2_with fail
      refine bodyPost_ret (results_tmp rfl _ _ _) rfl ?_
      exact ⟨rfl, HB.out⟩
    | true =>
      obtain ⟨hg, -, -⟩ := HOK.out rfl
      have HG := Lib.hid hg
      have HALL := Lib.hid (versM_all (h := hn mo mu sh) HWF.out (by have := HL.out; omega))
      have hvl : (versM (hn mo mu sh) steps [MS.empty]).length = steps.length + 1 := by rw [versM_len]; rfl
      obtain ⟨vs, hvs⟩ : ∃ vs, vs = versM (hn mo mu sh) steps [MS.empty] := ⟨_, rfl⟩
      have HVS := Lib.hid hvs
      rw [← hvs] at HG HALL hvl
      have hls : ∃ lg lc, l = .slice (some ⟨lg, 0, none⟩) vs.length lc := by
        obtain ⟨bs, q4, q5, q6⟩ := HG.out
        exact own_shape q4 (by omega)
      obtain ⟨lg, lc, rfl⟩ := hls
      obtain ⟨f, hf⟩ : ∃ f : Nat, c % (vs.length : Int) = (f : Int) := ⟨(c % (vs.length : Int)).toNat, by have := Int.emod_nonneg c (b := (vs.length : Int)) (by omega); omega⟩
      have hfl : f < vs.length := by have := Int.emod_lt_of_pos c (b := (vs.length : Int)) (by omega); omega
      have hv0 : ¬ vs.length = 0 := by omega
      have HFL := Lib.hid hfl
      have HVL := Lib.hid hvl
      clear hg HOK hvs hvl
      go_upto_region 9 with (fail)
      rw [hf]
      clear hf
      obtain ⟨m, hm⟩ : ∃ m, vs[f]? = some m := ⟨vs[f], List.getElem?_eq_getElem hfl⟩
      have HM := Lib.hid hm
      have HMM : Hid ((versM (hn mo mu sh) steps [MS.empty])[f]? = some m) := by show _ = _; rw [← HVS.out]; exact hm
      clear hm hfl hv0
      have HR0 : Hid (Below w2.heap.size w2 w2.drew) := (Below.refl _ w2).drew
      have HC0 : Hid (∀ W, Below w2.heap.size w2 W → W.cell? ⟨bx, 0, none⟩ = some (.int .u32 mo) ∧ W.cell? ⟨bx, 1, none⟩ = some (.int .u32 mu) ∧ W.cell? ⟨bx, 2, none⟩ = some (.int .u8 sh)) := fun W hR => ⟨cell_at (j := 0) (below_at hR HX2.out) rfl, cell_at (j := 1) (below_at hR HX2.out) rfl, cell_at (j := 2) (below_at hR HX2.out) rfl⟩
      refine region_segsR (fun W => Below w2.heap.size w2 W) [([0, 1, 3, 4], [2]), ([], [5]), ([6, 7, 8], [9]), ([], [10])] (by kernel_rfl) (by intro dst v c a w h; cases dst <;> exact h) (by kernel_rfl) HR0.out ?_
      refine r_segs ?_
      simp only [opsOf, List.getElem?_toArray, List.getElem?_cons_succ, List.getElem?_cons_zero]
      repeat (refine r_read ?_ (by kernel_rfl) ?_ (fun K hK => ?_); rotate_left 1; (intro W hR; obtain ⟨x0, x1, x2⟩ := HC0.out W hR; clear hR; go_simp; try with_reducible rfl); go_simp; refine hK _ ?_; clear hK K)
      refine r_nil1 ?_
      refine r_op rfl (fun K hK => ?_)
      go_simp
      refine (mapTo_w _ steps _ (HS3.out.below HR0.out) (by have := HL.out; omega)).mono ?_
      rintro e w3 ⟨v, rfl, hv, hb3⟩
      have HV3 := Lib.hid hv
      have HB3 : Hid (Below w2.heap.size w2 w3) := Below.undrew hb3
      clear hb3 hv
      refine hK _ _ HB3.out ?_
      clear hK K
      refine r_segs ?_
      simp only [opsOf]
      refine r_nil1 ?_
      refine r_op rfl (fun K hK => ?_)
      go_simp
      refine (mapGet_w (hn mo mu sh) mo mu sh HH.out H0.out v (.slice ka xs.length kc) steps xs f m w3 HV3.out (HK3.out.below HB3.out) (by have := HL.out; omega) (by have := HXL.out; omega) HMM.out).mono ?_
      rintro e w4 ⟨gv, go, rfl, hgot, hb4⟩
      have HGOT := Lib.hid hgot
      obtain ⟨va, vc, rfl⟩ := own_len hgot.1
      obtain ⟨oa, oc, rfl⟩ := own_len hgot.2
      clear hgot
      have HB4 : Hid (Below w2.heap.size w2 w4) := HB3.out.trans (hb4.mono HB3.out.size)
      clear hb4
      refine hK _ _ HB4.out ?_
      clear hK K
      refine r_segs ?_
      simp only [opsOf, List.getElem?_toArray, List.getElem?_cons_succ, List.getElem?_cons_zero]
      repeat (refine r_read ?_ (by kernel_rfl) ?_ (fun K hK => ?_); rotate_left 1; (intro W hR; clear hR; go_simp; try with_reducible rfl); go_simp; refine hK _ ?_; clear hK K)
      refine r_nil1 ?_
      refine r_op rfl (fun K hK => ?_)
      go_simp
      refine hK _ _ HB4.out ?_
      clear hK K
      refine r_segs ?_
      simp only [opsOf]
      refine r_nil1 ?_
      refine r_op rfl (fun K hK => ?_)
      go_simp
      refine hK _ _ HB4.out ?_
      clear hK K
      refine r_end ?_
      have HG4 := Lib.hid (HG.out.below HB4.out)
      have HK4 := Lib.hid (HK3.out.below HB4.out)
      obtain ⟨O1, O2, O3⟩ := HALL.out m (List.mem_of_getElem? HM.out)
      have HO1 := Lib.hid O1
      clear O1 O2 O3 HC0 HR0 HX2 HS3 HK3 HB3 HV3 HG HMM
      go_wp2_with fail
      go_loopg [76] xs.length (fun k i wr => ∃ j : Nat, j + k = xs.length ∧ i = .int .i64 (j : Int) ∧ Below w4.heap.size w4 wr)
      case atStart => exact ⟨0, by omega, rfl, Below.refl _ _⟩
      case round =>
        obtain ⟨j, hjk, rfl, hb⟩ := hrel
        have HB := Lib.hid hb
        clear hb
        have hw1 : IntKind.i64.wrap ((j : Int) + 1) = (j : Int) + 1 := by have := HXL.out; rw [IntKind.wrap_i64]; omega
        by_cases hlt : j < xs.length
        · have h1 : decide ((j : Int) < (xs.length : Int)) = true := by simp; omega
          have h3 : (j : Int) < (xs.length : Int) := by omega
          have hfl' : (f : Int) < (vs.length : Int) := by have := HFL.out; omega
          obtain ⟨x, hxj⟩ : ∃ e, xs[j]? = some e := ⟨xs[j], List.getElem?_eq_getElem hlt⟩
          obtain ⟨ka', kc', hkv, hkk⟩ := HK4.out.below HB.out
          simp only [Value.slice.injEq] at hkv
          obtain ⟨kg, ko, rfl, hkc⟩ : ∃ kg ko, ka = some ⟨kg, ko, none⟩ ∧ wr.cell? ⟨kg, ko + j, none⟩ = some (.int .i64 x) := by
            obtain ⟨kg, ko, h8, h9⟩ := hkk j x hxj
            exact ⟨kg, ko, hkv.1.trans h8, h9⟩
          obtain ⟨vg, rfl, hvc⟩ := own_get (own_below HGOT.out.1 HB.out) (by simp) (i := j) (u := .int .i64 ((look m.es x).getD 0)) (by simp [hxj])
          obtain ⟨og, rfl, hoc⟩ := own_get (own_below HGOT.out.2 HB.out) (by simp) (i := j) (u := .bool (look m.es x).isSome) (by simp [hxj])
          obtain ⟨bs, q4, q5, q6⟩ := HG4.out.below HB.out
          obtain ⟨r, hr⟩ : ∃ r, bs[f]? = some r := ⟨bs[f]'(by rw [q5]; exact HFL.out), List.getElem?_eq_getElem _⟩
          obtain ⟨m', mb, hm', rfl, hgm⟩ := q6 f r hr
          rw [HM.out] at hm'
          cases hm'
          have hcm := own_cell q4 hr
          have hlk := gm_look_any hgm HO1.out (HXW.out x (List.mem_of_getElem? hxj))
          obtain ⟨y1, hy1⟩ : ∃ y, y = (look m.es x).getD 0 := ⟨_, rfl⟩
          obtain ⟨y2, hy2⟩ : ∃ y, y = (look m.es x).isSome := ⟨_, rfl⟩
          rw [← hy1] at hvc hlk
          rw [← hy2] at hoc hlk
          clear hkk hkv hxj q4 q5 q6 hr hgm hy1 hy2
          cases y2 with
          | true =>
            go_wp2_with fail
            go_roundg (gk - 1)
            case measure => omega
            case rel => exact ⟨j + 1, by omega, rfl, HB.out⟩
          | false =>
            go_wp2_with fail
            go_roundg (gk - 1)
            case measure => omega
            case rel => exact ⟨j + 1, by omega, rfl, HB.out⟩
        · have h1 : decide ((j : Int) < (xs.length : Int)) = false := by simp; omega
          obtain rfl : j = xs.length := by omega
          go_wp2_with fail
          refine (awake_w wr).mono ?_
          rintro e w5 ⟨rfl, hb5⟩
          have HB5 : Hid (Below w4.heap.size w4 w5) := HB.out.trans (hb5.mono HB.out.size)
          clear hb5
          go_wp2_with fail
          refine bodyPost_ret (results_tmp rfl _ _ _) rfl ?_
          exact ⟨rfl, (HB2.out.trans (HB4.out.mono HB2.out.size)).trans (HB5.out.mono (HB2.out.trans (HB4.out.mono HB2.out.size)).size)⟩
end Go.Proofs.Ytpkndcmgialgcaa
