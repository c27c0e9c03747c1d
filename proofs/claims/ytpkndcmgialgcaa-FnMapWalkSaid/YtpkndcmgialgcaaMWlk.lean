/- The walk over the law FnMapWalk. -/
import Derived.Test.YtpkndcmgialgcaaWlkP
import Derived.Test.YtpkndcmgialgcaaMGet
namespace Go.Proofs.Ytpkndcmgialgcaa
open Go.RowKit Go.Maps

theorem BoolsV.of_own {w : World} {B n : Nat} {t : TypeId} {v : Value} {bs : List Bool} (h : w.ownsRow B t 1 v n (bs.map Value.bool)) (hn : n = bs.length) : BoolsV w v bs := by
  subst hn
  rcases h.2 with ⟨h1, h2⟩ | ⟨g, cap, cur, h1, _⟩
  · have h3 := List.eq_nil_of_length_eq_zero h2
    subst h3
    exact ⟨none, 0, h1, fun i e he => by simp at he⟩
  · refine ⟨_, cap, h1, fun i e he => ⟨g, 0, rfl, ?_⟩⟩
    have h4 := h.cells (g := g) (by rw [h1]; rfl) i (.bool e) (by rw [List.getElem?_map, he]; rfl)
    rw [Addr.add_lit] at h4
    exact h4
theorem sl44 : Try.prog.underlying 44 = some (.slice (Try.prog.elem 44)) := by kernel_rfl
theorem elem44 (w : World) : (sizeOf (Try.prog.elem 44)).run Try.prog w = .ok 2 w := by kernel_rfl
theorem slice44_l (g N c l : Nat) (hl : l ≤ N) (_hc : N ≤ c) : ∃ d : Addr, (l < c → d = ⟨g, l * 2, none⟩) ∧
    ∀ w : World, (Instr.slice 44 (.slice (some ⟨g, 0, none⟩) N c) (some (.int .i64 (l : Int))) none none).run Try.prog w = .ok (.slice (some d) (N - l) (c - l)) w := by
  refine ⟨if c = l then ⟨g, 0, none⟩ else ⟨g, l * 2, none⟩, fun h => by rw [if_neg (by omega)], fun w => ?_⟩
  rw [run_slice_l w 44 _ N c sl44 .i64 l (by omega) (by omega), elem44]
  simp only [Result.andThen_ok, sliced, Int.toNat_natCast, Option.map_some, addr_add, Nat.zero_add]
  split <;> rfl
theorem own_room2 {w : World} {B s n g cap : Nat} {e : TypeId} {cs : List Value} (h : w.ownsRow B e s (.slice (some ⟨g, 0, none⟩) n cap) n cs) : n ≤ cap := by
  rcases h.2 with ⟨h1, _⟩ | ⟨g', cap', cur, h1, h2, h3, h4, _⟩
  · cases h1
  · simp only [Value.slice.injEq] at h1
    omega
theorem bsW_zero (s : Nat) : (bsW s 0).map Value.bool = List.replicate s (Value.bool false) ++ [.bool true] := by
  unfold bsW
  rw [List.map_append, List.map_replicate]
  rfl

set_option maxRecDepth 100000 in
set_option maxHeartbeats 3200000 in
theorem mwlk_w (mo mu sh : Int) (_hmo : 0 ≤ mo) (hsh : 0 ≤ sh) (sv : Value) (steps : List Stp) (hwf : ∀ s ∈ steps, Wf s.K ∧ Wf s.V) (c : Int) (hc0 : 0 ≤ c) (hc1 : c ≤ 255) (c3 : Int) (hc2 : 0 ≤ c3) (hc3 : c3 ≤ 255) (w : World) (hs : StpV w sv steps) :
    Calls Try.prog 8 #[av mo mu sh, sv, .int .u8 c, .int .u8 c3] w fun e w' => e = .returned (.bool true) ∧ Below w.heap.size w w' := by
  obtain ⟨i4, hi, hz0, hz1, hz2⟩ := info_parts info4
  have HI4 := Lib.hid (And.intro hi (And.intro hz0 (And.intro hz1 hz2)))
  clear hi hz0 hz1 hz2
  have HS := Lib.hid hs
  have HWF := Lib.hid hwf
  obtain ⟨a, cap, rfl, -⟩ := hs
  have hA : Below w.heap.size w (w.alloc (.cells #[.int .u32 mo, .int .u32 mu, .int .u8 sh] 24)) := (Below.refl _ _).alloc (Nat.le_refl _) _
  have HX := Lib.hid (heap_alloc_last w (.cells #[.int .u32 mo, .int .u32 mu, .int .u8 sh] 24))
  have HA := Lib.hid hA
  have HS2 := Lib.hid (HS.out.below hA)
  clear hwf hA HS
  unfold av
  go_enter Try.func8, Try.ntmps8
  go_upto_region 1 with (fail)
  generalize w.alloc (.cells #[.int .u32 mo, .int .u32 mu, .int .u8 sh] 24) = X at HA HX HS2 ⊢
  obtain ⟨bx, hbx⟩ : ∃ bx, bx = w.heap.size := ⟨_, rfl⟩
  rw [← hbx] at HX ⊢
  clear hbx
  by_cases c1 : 2147483647 < steps.length
  · have d1 : decide ((2147483647 : Int) < (steps.length : Int)) = true := by simp; omega
    go_wp2_with fail
    refine bodyPost_ret (results_tmp rfl _ _ _) rfl ?_
    exact ⟨rfl, HA.out⟩
  have d1 : decide ((2147483647 : Int) < (steps.length : Int)) = false := by simp; omega
  have s0 := cell_at (j := 0) HX.out rfl
  have s1 := cell_at (j := 1) HX.out rfl
  have s2 := cell_at (j := 2) HX.out rfl
  obtain ⟨rt, hrt⟩ : ∃ rt, rt = (decide (0 < mo) && decide (sh < 32)) := ⟨_, rfl⟩
  have HRT := Lib.hid hrt
  have HHR := Lib.hid (hashRight_w mo mu sh X rt hrt)
  clear hrt
  go_upto_region 3 with (fail)
  go_cut [32] from 25 to 32 (fun v wc => ∃ b, v = .bool b ∧ (b = false → steps.length ≤ 20 ∧ rt = true) ∧ Below X.heap.size X wc)
  case first =>
    by_cases c3 : 20 < steps.length
    · have d3 : decide ((20 : Int) < (steps.length : Int)) = true := by simp; omega
      clear HHR HA HX HS2
      go_wp2_with fail
      go_meet
      case rel => exact ⟨true, rfl, nofun, Below.refl _ _⟩
    · have d3 : decide ((20 : Int) < (steps.length : Int)) = false := by simp; omega
      go_wp2_with fail
      refine HHR.out.mono ?_
      rintro e w1 ⟨rfl, hb1⟩
      have HB1 := Lib.hid hb1
      clear hb1 HHR s0 s1 s2 HX HS2 HA
      cases rt with
      | false =>
        go_wp2_with fail
        go_meet
        case rel => exact ⟨true, rfl, nofun, HB1.out⟩
      | true =>
        go_wp2_with fail
        go_meet
        case rel => exact ⟨false, rfl, fun _ => by refine ⟨by omega, ?_⟩; first | rfl | trivial, HB1.out⟩
  case rest =>
  obtain ⟨b, rfl, hbf, hb1⟩ := hcut
  obtain ⟨w1, rfl⟩ : ∃ w1 : World, w1 = wc := ⟨_, rfl⟩
  clear s0 s1 s2
  have HX1 := Lib.hid (below_at hb1 HX.out)
  have HS1 := Lib.hid (HS2.out.below hb1)
  have HB1 : Hid (Below w.heap.size w w1) := HA.out.trans (hb1.mono HA.out.size)
  clear hb1 HHR HX HS2 HA
  cases b with
  | true =>
    clear hbf
    go_wp2_with fail
    refine (awake_w _).mono ?_
    rintro e w' ⟨rfl, hb⟩
    have HB : Hid (Below w.heap.size w w') := HB1.out.trans (hb.mono HB1.out.size)
    clear hb
    go_wp2_with fail
    refine bodyPost_ret (results_tmp rfl _ _ _) rfl ?_
    exact ⟨rfl, HB.out⟩
  | false =>
    obtain ⟨q1, q2⟩ := hbf rfl
    subst q2
    have HLS : Hid (steps.length ≤ 20) := q1
    obtain ⟨g1, g2⟩ : 0 < mo ∧ sh < 32 := by
      have := HRT.out.symm
      simpa using this
    have HH := Lib.hid (hash_is (mo := mo) (mu := mu) (sh := sh) (by omega) hsh g2)
    have h0 : (mo == 0) = false := by simp; omega
    have H0 := Lib.hid h0
    have HV := Lib.hid (mapVersions_w (hn mo mu sh) (.slice a steps.length cap) steps 60 1000 w1 HS1.out (by have := HLS.out; omega) (by decide) (by decide) HWF.out)
    clear q1 g1 g2 h0 hbf
    go_wp2_with fail
    refine HV.out.mono ?_
    rintro e w2 ⟨l, ok, rfl, hb2, hok⟩
    have HOK := Lib.hid hok
    have HX2 := Lib.hid (below_at hb2 HX1.out)
    have HS3 := Lib.hid (HS1.out.below hb2)
    have HB2 : Hid (Below w.heap.size w w2) := HB1.out.trans (hb2.mono HB1.out.size)
    clear hb2 hok HV HX1 HS1 HB1
    cases ok with
    | false =>
      go_wp2_with fail
      refine (awake_w _).mono ?_
      rintro e w' ⟨rfl, hb⟩
      have HB : Hid (Below w.heap.size w w') := HB2.out.trans (hb.mono HB2.out.size)
      clear hb
      go_wp2_with fail
      refine bodyPost_ret (results_tmp rfl _ _ _) rfl ?_
      exact ⟨rfl, HB.out⟩
    | true =>
      obtain ⟨hg, hsml, -⟩ := HOK.out rfl
      have HSML := Lib.hid hsml
      clear hsml
      have HG := Lib.hid hg
      have HALL := Lib.hid (versM_all (h := hn mo mu sh) HWF.out (by have := HLS.out; omega))
      have hvl : (versM (hn mo mu sh) steps [MS.empty]).length = steps.length + 1 := by rw [versM_len]; rfl
      obtain ⟨vs, hvs⟩ : ∃ vs, vs = versM (hn mo mu sh) steps [MS.empty] := ⟨_, rfl⟩
      have HVS := Lib.hid hvs
      rw [← hvs] at HG HALL hvl
      have hls : ∃ lg lc, l = .slice (some ⟨lg, 0, none⟩) vs.length lc := by
        obtain ⟨bs, q4, q5, q6⟩ := HG.out
        exact own_shape q4 (by omega)
      obtain ⟨lg, lc, rfl⟩ := hls
      obtain ⟨f, hf⟩ : ∃ f : Nat, c % (vs.length : Int) = (f : Int) := ⟨(c % (vs.length : Int)).toNat, by have := Int.emod_nonneg c (b := (vs.length : Int)) (by omega); omega⟩
      have hfl : f < vs.length := by have := Int.emod_lt_of_pos c (b := (vs.length : Int)) (by omega); omega
      have hv0 : ¬ vs.length = 0 := by omega
      have HFL := Lib.hid hfl
      have HVL := Lib.hid hvl
      clear hg HOK hvs hvl
      go_upto_region 9 with (fail)
      rw [hf]
      clear hf
      obtain ⟨m, hm⟩ : ∃ m, vs[f]? = some m := ⟨vs[f], List.getElem?_eq_getElem hfl⟩
      have HM := Lib.hid hm
      have HMM : Hid ((versM (hn mo mu sh) steps [MS.empty])[f]? = some m) := by show _ = _; rw [← HVS.out]; exact hm
      have hnl : m.es.length ≤ 1000 := by
        have := HSML.out m (by rw [← HVS.out]; exact List.mem_of_getElem? hm)
        omega
      obtain ⟨N, hN⟩ : ∃ N, N = m.es.length := ⟨_, rfl⟩
      have HN := Lib.hid hN
      have HNL : Hid (N ≤ 1000) := by show N ≤ 1000; omega
      obtain ⟨bs, q4, q5, q6⟩ := HG.out
      obtain ⟨r, hr⟩ : ∃ r, bs[f]? = some r := ⟨bs[f]'(by rw [q5]; exact HFL.out), List.getElem?_eq_getElem _⟩
      obtain ⟨m', mb, hm', rfl, hgm⟩ := q6 f r hr
      rw [HM.out] at hm'
      cases hm'
      have HGM := Lib.hid hgm
      have hcm := own_cell q4 hr
      have HCM := Lib.hid hcm
      obtain ⟨D0, hD0, hd0⟩ := hgm
      have HD0 := Lib.hid hD0
      have HSZ : Hid (Maps.size D0 = N) := by show Maps.size D0 = N; rw [hN]; exact hd0.size
      have hfl' : (f : Int) < (vs.length : Int) := by have := HFL.out; omega
      clear hm hfl hv0 hnl hN q4 q5 q6 hr hD0 hd0
      go_upto_region 10 with (first | (at_len; refine wpList_len_own _ rfl _ 39 rfl 2 2 Try.underlying39 _ mb _ D0 rfl HD0.out ?_; rw [HSZ.out]) | go_in)
      clear hcm hfl'
      by_cases c5 : 80 < N
      · have d5 : decide ((80 : Int) < (N : Int)) = true := by simp; omega
        go_wp2_with fail
        refine (awake_w _).mono ?_
        rintro e w' ⟨rfl, hb⟩
        have HB : Hid (Below w.heap.size w w') := HB2.out.trans (hb.mono HB2.out.size)
        clear hb
        go_wp2_with fail
        refine bodyPost_ret (results_tmp rfl _ _ _) rfl ?_
        exact ⟨rfl, HB.out⟩
      have d5 : decide ((80 : Int) < (N : Int)) = false := by simp; omega
      obtain ⟨s, hs⟩ : ∃ s : Nat, c3 % ((N : Int) + 1) = (s : Int) := ⟨(c3 % ((N : Int) + 1)).toNat, by have := Int.emod_nonneg c3 (b := (N : Int) + 1) (by omega); omega⟩
      have HSN : Hid (s ≤ N) := by have := Int.emod_lt_of_pos c3 (b := (N : Int) + 1) (by omega); show s ≤ N; omega
      go_upto_region 13 with (fail)
      rw [hs]
      clear hs d5
      go_wp2_with fail
      go_loopg [14, 61] s (fun k v i wr => ∃ j : Nat, j + k = s ∧ i = .int .i64 (j : Int) ∧ wr.ownsRow w2.heap.size 4 1 v j (List.replicate j (Value.bool false)) ∧ Below w2.heap.size w2 wr)
      case atStart => exact ⟨0, by omega, rfl, World.ownsRow_nil _ _ _ _, Below.refl _ _⟩
      case round =>
        obtain ⟨j, hjk, rfl, ho, hb⟩ := hrel
        have HO := Lib.hid ho
        have HB := Lib.hid hb
        clear ho hb
        have hw1 : IntKind.i64.wrap ((j : Int) + 1) = (j : Int) + 1 := by have := HSN.out; have := HNL.out; rw [IntKind.wrap_i64]; omega
        by_cases hlt : j < s
        · have h1 : decide ((j : Int) < (s : Int)) = true := by simp; omega
          go_wp2_with (at_builtin; refine wpList_append_own _ rfl (.tmp 63) (.tmp 64) 55 rfl w2.heap.size 4 i4 (.bool false) 1 1 Try.underlying55 HI4.out.1 HI4.out.2.1 HI4.out.2.2.1 HI4.out.2.2.2 rfl (by decide) _ _ _ rfl (HO.out.alloc _) ⟨wr.heap.size, 0, none⟩ 1 1 [.bool false] rfl rfl (new_cell _ _ _) (one_oneCell rfl) (by have := HSN.out; have := HNL.out; unfold maxLen; omega) (by have := HSN.out; have := HNL.out; omega) (by have := HB.out.size; rw [size_alloc]; omega) ?_)
          intro v3 w3 hown3 hgrow3 _
          have HO3 := Lib.hid hown3
          have HB3 := Lib.hid (below_grown (HB.out.alloc HB.out.size (.cells #[.bool false] 4)) HO.out (Nat.le_refl _) (Nat.le_refl _) hgrow3)
          clear hown3 hgrow3
          go_wp2_with fail
          go_roundg (gk - 1)
          case measure => omega
          case rel =>
            refine ⟨j + 1, by omega, by go_num, ?_, HB3.out⟩
            rw [List.replicate_succ']
            exact HO3.out
        · have h1 : decide ((j : Int) < (s : Int)) = false := by simp; omega
          obtain rfl : s = j := by omega
          obtain ⟨wo, rfl⟩ : ∃ wo : World, wo = wr := ⟨_, rfl⟩
          clear hjk
          go_wp2_with (at_builtin; refine wpList_append_own _ rfl (.tmp 67) (.tmp 68) 55 rfl w2.heap.size 4 i4 (.bool false) 1 1 Try.underlying55 HI4.out.1 HI4.out.2.1 HI4.out.2.2.1 HI4.out.2.2.2 rfl (by decide) _ _ _ rfl (HO.out.alloc _) ⟨wo.heap.size, 0, none⟩ 1 1 [.bool true] rfl rfl (new_cell _ _ _) (one_oneCell rfl) (by have := HSN.out; have := HNL.out; unfold maxLen; omega) (by have := HSN.out; have := HNL.out; omega) (by have := HB.out.size; rw [size_alloc]; omega) ?_)
          intro v3 w3 hown3 hgrow3 _
          have HO3 := Lib.hid hown3
          have HB3 := Lib.hid (below_grown (HB.out.alloc HB.out.size (.cells #[.bool true] 4)) HO.out (Nat.le_refl _) (Nat.le_refl _) hgrow3)
          clear hown3 hgrow3 HO HB
          go_wp2_with fail
          go_loopg [14, 71] N (fun k v i wr => ∃ j : Nat, j + k = N ∧ i = .int .i64 (j : Int) ∧ wr.ownsRow w2.heap.size 4 1 v (s + 1 + j) ((bsW s j).map Value.bool) ∧ Below w2.heap.size w2 wr)
          case atStart => exact ⟨0, by omega, rfl, by rw [bsW_zero]; exact HO3.out, HB3.out⟩
          case round =>
            clear HO3 HB3
            obtain ⟨j, hjk, rfl, ho, hb⟩ := hrel
            have HO := Lib.hid ho
            have HB := Lib.hid hb
            clear ho hb
            have hw1 : IntKind.i64.wrap ((j : Int) + 1) = (j : Int) + 1 := by have := HSN.out; have := HNL.out; rw [IntKind.wrap_i64]; omega
            by_cases hlt : j < N
            · have h1 : decide ((j : Int) < (N : Int)) = true := by simp; omega
              go_wp2_with (at_builtin; refine wpList_append_own _ rfl (.tmp 73) (.tmp 74) 55 rfl w2.heap.size 4 i4 (.bool false) 1 1 Try.underlying55 HI4.out.1 HI4.out.2.1 HI4.out.2.2.1 HI4.out.2.2.2 rfl (by decide) _ _ _ rfl (HO.out.alloc _) ⟨wr.heap.size, 0, none⟩ 1 1 [.bool false] rfl rfl (new_cell _ _ _) (one_oneCell rfl) (by have := HSN.out; have := HNL.out; unfold maxLen; omega) (by have := HSN.out; have := HNL.out; omega) (by have := HB.out.size; rw [size_alloc]; omega) ?_)
              intro v3 w3 hown3 hgrow3 _
              have HO3 := Lib.hid hown3
              have HB3 := Lib.hid (below_grown (HB.out.alloc HB.out.size (.cells #[.bool false] 4)) HO.out (Nat.le_refl _) (Nat.le_refl _) hgrow3)
              clear hown3 hgrow3
              go_wp2_with fail
              go_roundg (gk - 1)
              case measure => omega
              case rel =>
                refine ⟨j + 1, by omega, by go_num, ?_, HB3.out⟩
                rw [bsW_succ, List.map_append]
                exact HO3.out
            · have h1 : decide ((j : Int) < (N : Int)) = false := by simp; omega
              obtain rfl : N = j := by omega
              obtain ⟨w3, rfl⟩ : ∃ w3 : World, w3 = wr := ⟨_, rfl⟩
              obtain ⟨L, hL⟩ : ∃ L, L = s + 1 + N := ⟨_, rfl⟩
              rw [← hL] at HO
              have hbl : (bsW s N).length = L := by rw [bsW_len, hL]
              have HBL := Lib.hid hbl
              have HL := Lib.hid hL
              obtain ⟨ba, bc, rfl⟩ := own_len HO.out
              have HBV := Lib.hid (BoolsV.of_own HO.out hbl.symm)
              have HX3 := Lib.hid (below_at HB.out HX2.out)
              have HS4 := Lib.hid (HS3.out.below HB.out)
              have HG3 := Lib.hid (HG.out.below HB.out)
              have HGM3 := Lib.hid (HGM.out.below HB.out)
              have HCM3 : Hid (w3.cell? ⟨lg, f, none⟩ = some (.map (some mb))) := (HB.out.cell (World.block_lt_of_cell? _ _ HCM.out)).trans HCM.out
              have HB3 : Hid (Below w.heap.size w w3) := HB2.out.trans (HB.out.mono HB2.out.size)
              clear hjk hL hbl HO HX2 HS3 HG HGM HB2 HB hlt hw1
              go_upto_region 23 with (fail)
              clear h1
              have HR0 : Hid (Below w3.heap.size w3 w3.drew) := (Below.refl _ w3).drew
              have HC0 : Hid (∀ W, Below w3.heap.size w3 W → W.cell? ⟨bx, 0, none⟩ = some (.int .u32 mo) ∧ W.cell? ⟨bx, 1, none⟩ = some (.int .u32 mu) ∧ W.cell? ⟨bx, 2, none⟩ = some (.int .u8 sh)) := fun W hR => ⟨cell_at (j := 0) (below_at hR HX3.out) rfl, cell_at (j := 1) (below_at hR HX3.out) rfl, cell_at (j := 2) (below_at hR HX3.out) rfl⟩
              refine region_segsR (fun W => Below w3.heap.size w3 W) [([0, 1, 3, 4], [2]), ([], [5]), ([6, 7, 8, 9, 10], [11]), ([], [12]), ([], [13]), ([], [14])] (by kernel_rfl) (by intro dst v c a w h; cases dst <;> exact h) (by kernel_rfl) HR0.out ?_
              refine r_segs ?_
              simp only [opsOf, List.getElem?_toArray, List.getElem?_cons_succ, List.getElem?_cons_zero]
              repeat (refine r_read ?_ (by kernel_rfl) ?_ (fun K hK => ?_); rotate_left 1; (intro W hR; obtain ⟨x0, x1, x2⟩ := HC0.out W hR; clear hR; go_simp; try with_reducible rfl); go_simp; refine hK _ ?_; clear hK K)
              refine r_nil1 ?_
              refine r_op rfl (fun K hK => ?_)
              go_simp
              refine (mapTo_w _ steps _ (HS4.out.below HR0.out) (by have := HLS.out; omega)).mono ?_
              rintro e w4 ⟨v, rfl, hv, hb4⟩
              have HV4 := Lib.hid hv
              have HB4 : Hid (Below w3.heap.size w3 w4) := Below.undrew hb4
              clear hb4 hv
              refine hK _ _ HB4.out ?_
              clear hK K
              refine r_segs ?_
              simp only [opsOf]
              refine r_nil1 ?_
              refine r_op rfl (fun K hK => ?_)
              go_simp
              refine (mapWalk_w (hn mo mu sh) mo mu sh HH.out H0.out v (.slice ba L bc) steps (bsW s N) f m w4 HV4.out (HBV.out.below HB4.out) (by have := HLS.out; omega) (by rw [HBL.out, HL.out]; have := HSN.out; have := HNL.out; omega) HMM.out).mono ?_
              rintro e w5 ⟨p, o, d, rfl, hwk, hb5⟩
              rw [HBL.out] at hwk
              obtain ⟨pg, pc, rfl⟩ := own_shape hwk.1 (by have := HL.out; omega)
              obtain ⟨og, oc, rfl⟩ := own_shape hwk.2.1 (by have := HL.out; omega)
              obtain ⟨dg, dc, rfl⟩ := own_shape hwk.2.2 (by have := HL.out; omega)
              have HWK := Lib.hid hwk
              have HB5 : Hid (Below w3.heap.size w3 w5) := HB4.out.trans (hb5.mono HB4.out.size)
              obtain ⟨y0, hy0⟩ : ∃ y, y = m.es.isEmpty := ⟨_, rfl⟩
              rw [← hy0]
              have HY0 := Lib.hid hy0
              clear hb5 hwk hy0
              refine hK _ _ HB5.out ?_
              clear hK K
              refine r_segs ?_
              simp only [opsOf, List.getElem?_toArray, List.getElem?_cons_succ, List.getElem?_cons_zero]
              repeat (refine r_read ?_ (by kernel_rfl) ?_ (fun K hK => ?_); rotate_left 1; (intro W hR; clear hR; go_simp; try with_reducible rfl); go_simp; refine hK _ ?_; clear hK K)
              refine r_nil1 ?_
              refine r_op rfl (fun K hK => ?_)
              go_simp
              refine hK _ _ HB5.out ?_
              clear hK K
              repeat (refine r_segs ?_; simp only [opsOf]; refine r_nil1 ?_; refine r_op rfl (fun K hK => ?_); go_simp; refine hK _ _ HB5.out ?_; clear hK K)
              refine r_end ?_
              have HG5 := Lib.hid (HG3.out.below HB5.out)
              have HGM5 := Lib.hid (HGM3.out.below HB5.out)
              have HCM5 : Hid (w5.cell? ⟨lg, f, none⟩ = some (.map (some mb))) := (HB5.out.cell (World.block_lt_of_cell? _ _ HCM3.out)).trans HCM3.out
              have HB6 : Hid (Below w.heap.size w w5) := HB3.out.trans (HB5.out.mono HB3.out.size)
              clear HC0 HR0 HX3 HS4 HV4 HB4 HBV HG3 HGM3 HB3 HB5 HMM
              have hy : ((N : Int) == 0) = y0 := by
                rw [HY0.out, HN.out]
                cases m.es <;> simp <;> omega
              have hLs : s + 1 ≤ L := by have := HL.out; omega
              obtain ⟨pd, hpd, hsl⟩ := slice44_l pg L pc (s + 1) hLs (own_room2 HWK.out.1)
              have hsl : ∀ w : World, (Instr.slice 44 (.slice (some ⟨pg, 0, none⟩) L pc) (some (.int .i64 ((s : Int) + 1))) none none).run Try.prog w = .ok (.slice (some pd) (L - (s + 1)) (pc - (s + 1))) w := hsl
              have e9 : L - (s + 1) = N := by have := HL.out; omega
              rw [e9] at hsl
              have hw2 : IntKind.i64.wrap ((s : Int) + 1) = (s : Int) + 1 := by have := HSN.out; have := HNL.out; rw [IntKind.wrap_i64]; omega
              have HPD := Lib.hid hpd
              have HRM := Lib.hid (own_room2 HWK.out.1)
              clear e9 hpd hLs
              go_upto_region 27 with (fail)
              clear hy hsl
              go_wp2_with fail
              go_loopg [118] s (fun k i wr => ∃ j : Nat, j + k = s ∧ i = .int .i64 (j : Int) ∧ Below w5.heap.size w5 wr)
              case atStart => exact ⟨0, by omega, rfl, Below.refl _ _⟩
              case round =>
                obtain ⟨j, hjk, rfl, hb⟩ := hrel
                have HB := Lib.hid hb
                clear hb
                have hw1 : IntKind.i64.wrap ((j : Int) + 1) = (j : Int) + 1 := by have := HSN.out; have := HNL.out; rw [IntKind.wrap_i64]; omega
                by_cases hlt : j < s
                · have h1 : decide ((j : Int) < (s : Int)) = true := by simp; omega
                  obtain ⟨⟨y1, y2⟩, hyj⟩ : ∃ e, m.es[j]? = some e := ⟨m.es[j]'(by have := HN.out; have := HSN.out; omega), List.getElem?_eq_getElem _⟩
                  have hsn : s ≤ m.es.length := by have := HN.out; have := HSN.out; omega
                  obtain ⟨f1, f2⟩ := bsW_front (stop := s) hsn hlt hyj
                  obtain ⟨f3, f4, f5⟩ := bsW_rear (stop := s) hyj
                  rw [← HN.out, ← HL.out] at f1 f2 f3 f4 f5
                  obtain ⟨W1, W2, W3⟩ := HWK.out
                  have hW1 := own_below W1 HB.out
                  have hW2 := own_below W2 HB.out
                  have c0 := own_cells hW1 (ecells_at f1).1
                  have c1 := own_cells hW1 (ecells_at f1).2
                  have c2 := own_cells hW1 (ecells_at f3).1
                  have c3 := own_cells hW1 (ecells_at f3).2
                  have c4 := own_cell hW2 (i := j) (u := .bool true) (by rw [List.getElem?_map, f2]; rfl)
                  obtain rfl : pd = _ := HPD.out (by have := HRM.out; have := HL.out; have := HSN.out; omega)
                  have e2 : (s + 1 + j) * 2 = (s + 1) * 2 + j * 2 := by omega
                  rw [e2] at c2 c3
                  have hjL : (j : Int) < (L : Int) := by have := HL.out; omega
                  have hjN : (j : Int) < (N : Int) := by have := HSN.out; omega
                  have hj0 : (0 : Int) ≤ (j : Int) := by omega
                  clear f1 f2 f3 f4 f5 W1 W2 W3 hW1 hW2 hyj hsn e2
                  go_upto_region 30 with (fail)
                  refine region_still (by kernel_rfl) (by kernel_rfl) (Veil.out ?_)
                  repeat (refine v_step (fun K hK => ?_); go_simp; refine hK _ ?_; clear hK K)
                  refine v_nil ⟨?_⟩
                  go_wp2_with fail
                  go_roundg (gk - 1)
                  case measure => omega
                  case rel => exact ⟨j + 1, by omega, by go_num, HB.out.drew⟩
                · have h1 : decide ((j : Int) < (s : Int)) = false := by simp; omega
                  obtain rfl : s = j := by omega
                  obtain ⟨w6, rfl⟩ : ∃ w6 : World, w6 = wr := ⟨_, rfl⟩
                  clear hjk hw1
                  go_wp2_with fail
                  go_loopg [139] N (fun k i wr => ∃ j : Nat, j + k = N ∧ i = .int .i64 (j : Int) ∧ w6 = wr)
                  case atStart => exact ⟨0, by omega, rfl, rfl⟩
                  case round =>
                    obtain ⟨j, hjk, rfl, rfl⟩ := hrel
                    have hw1 : IntKind.i64.wrap ((j : Int) + 1) = (j : Int) + 1 := by have := HSN.out; have := HNL.out; rw [IntKind.wrap_i64]; omega
                    by_cases hlt : j < N
                    · have h1 : decide ((j : Int) < (N : Int)) = true := by simp; omega
                      obtain ⟨y, hyj⟩ : ∃ e, m.es[j]? = some e := ⟨m.es[j]'(by have := HN.out; omega), List.getElem?_eq_getElem _⟩
                      obtain ⟨f3, f4, f5⟩ := bsW_rear (stop := s) hyj
                      rw [← HN.out, ← HL.out] at f3 f4 f5
                      obtain ⟨W1, W2, W3⟩ := HWK.out
                      obtain ⟨q, hq⟩ : ∃ q, q = s + 1 + j := ⟨_, rfl⟩
                      obtain ⟨yb, hyb⟩ : ∃ yb, yb = decide (j + 1 = N) := ⟨_, rfl⟩
                      rw [← hq] at f4 f5
                      rw [← hyb] at f5
                      have c4 := own_cell (own_below W2 HB.out) (i := q) (u := .bool true) (by rw [List.getElem?_map, f4]; rfl)
                      have c5 := own_cell (own_below W3 HB.out) (i := q) (u := .bool yb) (by rw [List.getElem?_map, f5]; rfl)
                      have hw3 : IntKind.i64.wrap ((s : Int) + 1 + (j : Int)) = (q : Int) := by have := HSN.out; have := HNL.out; rw [IntKind.wrap_i64, hq]; omega
                      have hw4 : IntKind.i64.wrap ((N : Int) - 1) = (N : Int) - 1 := by have := HNL.out; rw [IntKind.wrap_i64]; omega
                      have hyc : ((j : Int) == (N : Int) - 1) = yb := by rw [hyb, Bool.eq_iff_iff, beq_iff_eq, decide_eq_true_iff]; omega
                      have hqL : (q : Int) < (L : Int) := by have := HL.out; omega
                      clear f3 f4 f5 W1 W2 W3 hyj hq hyb
                      go_wp2_with fail
                      go_roundg (gk - 1)
                      case measure => omega
                      case rel => exact ⟨j + 1, by omega, by go_num, rfl⟩
                    · have h1 : decide ((j : Int) < (N : Int)) = false := by simp; omega
                      clear hw2
                      go_upto_region 39 with (fail)
                      clear h1 hjk hw1
                      have HPV : Hid (PairV w6 (.slice (some pd) N (pc - (s + 1))) m.es) := by
                        refine ⟨_, _, by rw [← HN.out], fun i e hi => ?_⟩
                        have hil := (List.getElem?_eq_some_iff.1 hi).1
                        obtain ⟨f3, -, -⟩ := bsW_rear (stop := s) hi
                        rw [← HN.out, ← HL.out] at f3
                        have e2 : (s + 1 + i) * 2 = (s + 1) * 2 + i * 2 := by omega
                        have hW1 := own_below HWK.out.1 HB.out
                        have c2 := own_cells hW1 (ecells_at f3).1
                        have c3 := own_cells hW1 (ecells_at f3).2
                        rw [e2] at c2 c3
                        exact ⟨pg, (s + 1) * 2, by rw [HPD.out (by have := HRM.out; have := HL.out; have := HN.out; omega)], c2, c3⟩
                      have HG6 := Lib.hid (HG5.out.below HB.out)
                      have HGM6 := Lib.hid (HGM5.out.below HB.out)
                      have HCL : Hid (∀ W, Below w6.heap.size w6 W → W.cell? ⟨lg, f, none⟩ = some (.map (some mb))) := fun W hW => by
                        have l5 := World.block_lt_of_cell? w5 _ HCM5.out
                        have h6 := (HB.out.cell l5).trans HCM5.out
                        exact (hW.cell (World.block_lt_of_cell? w6 _ h6)).trans h6
                      have hfl' : (f : Int) < (vs.length : Int) := by have := HFL.out; omega
                      have HR0 : Hid (Below w6.heap.size w6 w6.drew) := (Below.refl _ w6).drew
                      obtain ⟨O1, O2, O3⟩ := HALL.out m (List.mem_of_getElem? HM.out)
                      have HO1 := Lib.hid O1
                      have HO2 := Lib.hid O2
                      have HO3 := Lib.hid O3
                      clear O1 O2 O3
                      refine region_segsR (fun W => Below w6.heap.size w6 W) [([0, 2, 3, 4, 5], [1]), ([], [6]), ([7], [8]), ([9], [10])] (by kernel_rfl) (by intro dst v c a w h; cases dst <;> exact h) (by kernel_rfl) HR0.out ?_
                      refine r_segs ?_
                      simp only [opsOf, List.getElem?_toArray, List.getElem?_cons_succ, List.getElem?_cons_zero]
                      repeat (refine r_read ?_ (by kernel_rfl) ?_ (fun K hK => ?_); rotate_left 1; (intro W hR; have x0 := HCL.out W hR; clear hR; go_simp; try with_reducible rfl); go_simp; refine hK _ ?_; clear hK K)
                      refine r_nil1 ?_
                      refine r_op rfl (fun K hK => ?_)
                      go_simp
                      refine (pairsOf_w _ m.es _ (HPV.out.below HR0.out) HO3.out).mono ?_
                      rintro e w7 ⟨v, rfl, hv, hb7⟩
                      have HV7 := Lib.hid hv
                      have HB7 : Hid (Below w6.heap.size w6 w7) := Below.undrew hb7
                      clear hb7 hv
                      refine hK _ _ HB7.out ?_
                      clear hK K
                      refine r_segs ?_
                      simp only [opsOf]
                      refine r_nil1 ?_
                      refine r_op rfl (fun K hK => ?_)
                      go_simp
                      refine (samePairs_w v m.es mb w7 HV7.out (HGM6.out.below HB7.out) HO1.out HO2.out HO3.out).mono ?_
                      rintro e w8 ⟨rfl, hb8⟩
                      have HB8 : Hid (Below w6.heap.size w6 w8) := HB7.out.trans (hb8.mono HB7.out.size)
                      clear hb8
                      refine hK _ _ HB8.out ?_
                      clear hK K
                      refine r_segs ?_
                      simp only [opsOf, List.getElem?_toArray, List.getElem?_cons_succ, List.getElem?_cons_zero]
                      repeat (refine r_read ?_ (by kernel_rfl) ?_ (fun K hK => ?_); rotate_left 1; (intro W hR; clear hR; go_simp; try with_reducible rfl); go_simp; refine hK _ ?_; clear hK K)
                      refine r_nil1 ?_
                      refine r_op rfl (fun K hK => ?_)
                      go_simp
                      refine (awake_w w8).mono ?_
                      rintro e w9 ⟨rfl, hb9⟩
                      have HB9 : Hid (Below w6.heap.size w6 w9) := HB8.out.trans (hb9.mono HB8.out.size)
                      clear hb9
                      refine hK _ _ HB9.out ?_
                      clear hK K
                      refine r_segs ?_
                      simp only [opsOf, List.getElem?_toArray, List.getElem?_cons_succ, List.getElem?_cons_zero]
                      repeat (refine r_read ?_ (by kernel_rfl) ?_ (fun K hK => ?_); rotate_left 1; (intro W hR; clear hR; go_simp; try with_reducible rfl); go_simp; refine hK _ ?_; clear hK K)
                      refine r_nil1 ?_
                      refine r_op rfl (fun K hK => ?_)
                      go_simp
                      refine hK _ _ HB9.out ?_
                      clear hK K
                      refine r_end ?_
                      go_wp2_with fail
                      refine bodyPost_ret (results_tmp rfl _ _ _) rfl ?_
                      exact ⟨rfl, HB6.out.trans ((HB.out.trans (HB9.out.mono HB.out.size)).mono HB6.out.size)⟩
end Go.Proofs.Ytpkndcmgialgcaa
