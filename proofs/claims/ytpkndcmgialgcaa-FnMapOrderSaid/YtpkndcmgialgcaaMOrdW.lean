/- The walk over the law FnMapOrder. -/
import Derived.Test.YtpkndcmgialgcaaMSameL
namespace Go.Proofs.Ytpkndcmgialgcaa
open Go.RowKit Go.Maps

theorem own_ne_map {w : World} {base size n b : Nat} {e : TypeId} {v : Value} {xs : List Value} {es : List (Int × Int)} (ho : w.ownsRow base e size v n xs) (g : GM w b es) : v.ownBlock = none ∨ v.ownBlock ≠ some b := by
  obtain ⟨D, ⟨es', clock, hb, _⟩, _⟩ := g
  rcases ho.2 with ⟨rfl, _⟩ | ⟨g, cap, cur, rfl, _, h2, _⟩
  · exact .inl rfl
  · refine .inr fun e1 => ?_
    have e2 : g = b := by simpa [Value.ownBlock] using e1
    subst e2
    rw [h2] at hb
    cases hb
theorem gm_look_plain {w : World} {mb : Nat} {es : List (Int × Int)} {k : Int} (g : GM w mb es) (ho : Once es) (hw : Wf k) :
    (Instr.lookup 39 (.map (some mb)) (.int .i64 k) false).run Try.prog w = .ok (.int .i64 ((look es k).getD 0)) w := by
  obtain ⟨D, h1, hd⟩ := g
  obtain ⟨c, hrun, hc, _⟩ := h1.lookup_int key2 Try.underlying39 Try.underlying2 (zero2 w) (keyOf_int_mk Try.underlying2 hw)
  rw [hrun]
  have e : c = (look es k).getD 0 := by
    cases hv : look es k with
    | some v =>
      have h2 := hd.at_ k v hv (.lit (.int .i64 0))
      unfold kl vl at h2
      rw [h2] at hc
      have h4 : v = c := by simpa using hc
      rw [← h4]; rfl
    | none =>
      have h5 : Maps.has D (.int .i64 k) = false := by
        have := hd.has k
        unfold kl at this
        rw [this, has_look ho, hv]
        rfl
      rw [atKey_of_not_has h5] at hc
      have h4 : (0 : Int) = c := by simpa using hc
      rw [← h4]; rfl
  rw [e]
def keyAt (xs : List Int) (i : Nat) : Int := xs.getD i 0
def idx (i : Nat) : Int := if i ≤ 1000 then (i : Int) else 0
theorem idx_of {i : Nat} (h : i ≤ 1000) : idx i = (i : Int) := by unfold idx; rw [if_pos h]
theorem idx_wf (i : Nat) : Wf (idx i) := by
  unfold idx
  split
  · exact wf_nat (by omega)
  · exact wf_nat (n := 0) (by omega)
def keyRot (xs : List Int) (s i : Nat) : Int := keyAt xs ((i + s) % xs.length)
theorem StpV.of_own {w : World} {B n : Nat} {t : TypeId} {v : Value} {steps : List Stp} (h : w.ownsRow B t 5 v n (steps.flatMap Stp.cells)) (hn : n = steps.length) : StpV w v steps := by
  subst hn
  rcases h.2 with ⟨h1, h2⟩ | ⟨g, cap, cur, h1, h2, h3, _⟩
  · have := List.eq_nil_of_length_eq_zero h2
    subst this
    exact ⟨none, 0, h1, fun j s hs => by simp at hs⟩
  · refine ⟨_, cap, h1, fun j s hs => ⟨g, 0, rfl, fun i u hu => ?_⟩⟩
    have h4 := h.cells (g := g) (by rw [h1]; rfl) (j * 5 + i) u (flat_get steps j s hs i u hu)
    rw [Addr.add_lit] at h4
    rw [Nat.add_assoc]
    exact h4
theorem sl32 : Try.prog.underlying 32 = some (.slice (Try.prog.elem 32)) := by kernel_rfl
theorem elem32 (w : World) : (sizeOf (Try.prog.elem 32)).run Try.prog w = .ok 2 w := by kernel_rfl
theorem slice32_l (g n c : Nat) (hc : n + 1 ≤ c) (w : World) : (Instr.slice 32 (.slice (some ⟨g, 0, none⟩) (n + 1) c) (some (.int .i64 (n : Int))) none none).run Try.prog w = .ok (.slice (some ⟨g, n * 2, none⟩) 1 (c - n)) w := by
  rw [run_slice_l w 32 _ (n + 1) c sl32 .i64 n (by omega) (by omega), elem32]
  simp only [Result.andThen_ok, sliced, Int.toNat_natCast, Option.map_some, addr_add, Nat.zero_add]
  rw [if_neg (by omega)]
  simp
theorem seens_cap {w : World} {B g c : Nat} {vs : List (MS Int Int)} (h : Seens w B (.slice (some ⟨g, 0, none⟩) vs.length c) vs) : vs.length ≤ c := by
  obtain ⟨sls, h1, h2, h3⟩ := h
  rcases h2.2 with ⟨h4, _⟩ | ⟨g', c', cur, h4, _, _, h5, _⟩
  · cases h4
  · simp only [Value.slice.injEq] at h4
    omega
theorem gl_one {w : World} {mb : Nat} {m : MS Int Int} (g : GM w mb m.es) : GVersL (w.alloc (.cells #[.map (some mb)] 39)) (.slice (some ⟨w.heap.size, 0, none⟩) 1 1) [m] := by
  refine ⟨_, _, rfl, fun i m' hm' => ?_⟩
  rcases i with _ | i
  · simp only [List.getElem?_cons_zero, Option.some.injEq] at hm'
    subst hm'
    exact ⟨_, _, mb, rfl, cell_at (heap_alloc_last w _) rfl, g.below ((Below.refl _ _).alloc (Nat.le_refl _) _)⟩
  · simp at hm'
theorem look_wf {es : List (Int × Int)} (ho : Once es) (hw : WfAll es) (k : Int) : Wf ((look es k).getD 0) := by
  cases hv : look es k with
  | none => exact wf_nat (n := 0) (by omega)
  | some v => exact (hw _ ((look_iff ho).1 hv)).2
theorem rot_eq {j s n : Nat} (_hn : n ≠ 0) (hj : j ≤ 100) (hs : s ≤ 255) : (wrap64 ((j : Int) + wrap64 (s : Int))).tmod (n : Int) = (((j + s) % n : Nat) : Int) := by
  rw [wrap64_is (s : Int) (by omega), wrap64_is _ (by omega), Int.tmod_eq_emod_of_nonneg (by omega), Int.natCast_emod, Int.natCast_add]
theorem rot_onto {xs : List Int} {j : Nat} (hj : j < xs.length) (s : Nat) : ∃ i, i < xs.length ∧ keyRot xs s i = keyAt xs j := by
  have hn : 0 < xs.length := by omega
  have h1 : s % xs.length < xs.length := Nat.mod_lt _ hn
  refine ⟨(j + (xs.length - s % xs.length)) % xs.length, Nat.mod_lt _ hn, ?_⟩
  unfold keyRot
  have e : ((j + (xs.length - s % xs.length)) % xs.length + s) % xs.length = j := by
    rw [Nat.add_mod, Nat.mod_mod, ← Nat.add_mod]
    have h2 : j + (xs.length - s % xs.length) + s = j + xs.length * (s / xs.length + 1) := by
      have := Nat.div_add_mod s xs.length
      rw [Nat.mul_add, Nat.mul_one]
      omega
    rw [h2, Nat.add_mul_mod_self_left]
    exact Nat.mod_eq_of_lt hj
  rw [e]
theorem keyAt_wf {xs : List Int} (h : ∀ n ∈ xs, Wf n) (i : Nat) : Wf (keyAt xs i) := by
  unfold keyAt
  rw [List.getD_eq_getElem?_getD]
  cases hx : xs[i]? with
  | none => exact wf_nat (n := 0) (by omega)
  | some x => exact h x (List.mem_of_getElem? hx)
theorem keyAt_of {xs : List Int} {i : Nat} {x : Int} (h : xs[i]? = some x) : keyAt xs i = x := by
  unfold keyAt
  rw [List.getD_eq_getElem?_getD, h]; rfl

theorem info41 : (Try.prog.info? 41).map (fun i => (i.zero, i.size, i.bytes)) = some (some (.agg #[.int .u8 0, .int .i64 0, .int .i64 0, .int .i64 0, .int .i64 0]), 5, 40) := by kernel_rfl

set_option maxRecDepth 100000 in
set_option maxHeartbeats 3200000 in
theorem mord_w (mo mu sh : Int) (_hmo : 0 ≤ mo) (hsh : 0 ≤ sh) (kv : Value) (xs : List Int) (hxw : ∀ n ∈ xs, Wf n) (c : Int) (hc0 : 0 ≤ c) (hc1 : c ≤ 255) (w : World) (hxs : IntsV w kv xs) :
    Calls Try.prog 4 #[av mo mu sh, kv, .int .u8 c] w fun e w' => e = .returned (.bool true) ∧ Below w.heap.size w w' := by
  have hmm := @run_makeMap Try.prog
  obtain ⟨i41, hi, hz0, hz1, hz2⟩ := info_parts info41
  have HI := Lib.hid (And.intro hi (And.intro hz0 (And.intro hz1 hz2)))
  clear hi hz0 hz1 hz2
  have HXW := Lib.hid hxw
  have HK := Lib.hid hxs
  obtain ⟨ka, kc, rfl, -⟩ := hxs
  obtain ⟨s, rfl⟩ : ∃ s : Nat, c = (s : Int) := ⟨c.toNat, by omega⟩
  have HSS : Hid (s ≤ 255) := by show s ≤ 255; omega
  have hA : Below w.heap.size w (w.alloc (.cells #[.int .u32 mo, .int .u32 mu, .int .u8 sh] 24)) := (Below.refl _ _).alloc (Nat.le_refl _) _
  have HX := Lib.hid (heap_alloc_last w (.cells #[.int .u32 mo, .int .u32 mu, .int .u8 sh] 24))
  have HA := Lib.hid hA
  clear hA hxw hc0 hc1
  unfold av
  go_enter Try.func4, Try.ntmps4
  go_upto_region 1 with (fail)
  generalize w.alloc (.cells #[.int .u32 mo, .int .u32 mu, .int .u8 sh] 24) = X at HA HX ⊢
  obtain ⟨bx, hbx⟩ : ∃ bx, bx = w.heap.size := ⟨_, rfl⟩
  have HBX := Lib.hid hbx
  rw [← hbx] at HX ⊢
  clear hbx
  by_cases c2 : 2147483647 < xs.length
  · have d2 : decide ((2147483647 : Int) < (xs.length : Int)) = true := by simp; omega
    go_wp2_with fail
    refine bodyPost_ret (results_tmp rfl _ _ _) rfl ?_
    exact ⟨rfl, HA.out⟩
  have d2 : decide ((2147483647 : Int) < (xs.length : Int)) = false := by simp; omega
  have s0 := cell_at (j := 0) HX.out rfl
  have s1 := cell_at (j := 1) HX.out rfl
  have s2 := cell_at (j := 2) HX.out rfl
  obtain ⟨rt, hrt⟩ : ∃ rt, rt = (decide (0 < mo) && decide (sh < 32)) := ⟨_, rfl⟩
  have HRT := Lib.hid hrt
  have HHR := Lib.hid (hashRight_w mo mu sh X rt hrt)
  clear hrt
  go_upto_region 3 with (fail)
  go_cut [32] from 20 to 32 (fun v wc => ∃ b, v = .bool b ∧ (b = false → xs.length ≠ 0 ∧ xs.length ≤ 60 ∧ rt = true) ∧ Below X.heap.size X wc)
  case first =>
    by_cases c3 : xs.length = 0
    · have d3 : ((xs.length : Int) == 0) = true := by rw [c3]; rfl
      clear HHR HA HX
      go_wp2_with fail
      go_meet
      case rel => exact ⟨true, rfl, nofun, Below.refl _ _⟩
    · have d3 : ((xs.length : Int) == 0) = false := by rw [beq_eq_false_iff_ne]; omega
      by_cases c4 : 60 < xs.length
      · have d4 : decide ((60 : Int) < (xs.length : Int)) = true := by simp; omega
        clear HHR HA HX
        go_wp2_with fail
        go_meet
        case rel => exact ⟨true, rfl, nofun, Below.refl _ _⟩
      · have d4 : decide ((60 : Int) < (xs.length : Int)) = false := by simp; omega
        go_wp2_with fail
        refine HHR.out.mono ?_
        rintro e w1 ⟨rfl, hb1⟩
        have HB1 := Lib.hid hb1
        clear hb1 HHR s0 s1 s2 HX HA
        cases rt with
        | false =>
          go_wp2_with fail
          go_meet
          case rel => exact ⟨true, rfl, nofun, HB1.out⟩
        | true =>
          go_wp2_with fail
          go_meet
          case rel => exact ⟨false, rfl, fun _ => by refine ⟨c3, by omega, ?_⟩; first | rfl | trivial, HB1.out⟩
  case rest =>
  obtain ⟨b, rfl, hbf, hb1⟩ := hcut
  obtain ⟨w1, rfl⟩ : ∃ w1 : World, w1 = wc := ⟨_, rfl⟩
  clear s0 s1 s2
  have HX1 := Lib.hid (below_at hb1 HX.out)
  have HB1 : Hid (Below w.heap.size w w1) := HA.out.trans (hb1.mono HA.out.size)
  clear hb1 HHR HX HA
  cases b with
  | true =>
    clear hbf
    go_wp2_with fail
    refine (awake_w _).mono ?_
    rintro e w' ⟨rfl, hb⟩
    have HB : Hid (Below w.heap.size w w') := HB1.out.trans (hb.mono HB1.out.size)
    clear hb
    go_wp2_with fail
    refine bodyPost_ret (results_tmp rfl _ _ _) rfl ?_
    exact ⟨rfl, HB.out⟩
  | false =>
    obtain ⟨q1, q2, q3⟩ := hbf rfl
    subst q3
    have HNZ : Hid (xs.length ≠ 0) := q1
    have HXL : Hid (xs.length ≤ 60) := q2
    obtain ⟨g1, g2⟩ : 0 < mo ∧ sh < 32 := by
      have := HRT.out.symm
      simpa using this
    have HH := Lib.hid (hash_is (mo := mo) (mu := mu) (sh := sh) (by omega) hsh g2)
    have h0 : (mo == 0) = false := by simp; omega
    have H0 := Lib.hid h0
    clear q1 q2 g1 g2 h0 hbf
    go_upto_region 7 with (fail)
    have hA : Below w1.heap.size w1 (w1.alloc (.map #[] 0)) := (Below.refl _ _).alloc (Nat.le_refl _) _
    have HGM := Lib.hid (gm_empty w1)
    have HX2 := Lib.hid (below_at hA HX1.out)
    have HB2 := Lib.hid (HB1.out.trans (hA.mono HB1.out.size))
    have HMB : Hid (w.heap.size ≤ w1.heap.size) := HB1.out.size
    clear hA HX1 HB1
    generalize w1.alloc (.map #[] 0) = W at HGM HX2 HB2 ⊢
    generalize w1.heap.size = mb at HGM HMB ⊢
    clear w1
    go_wp2_with fail
    go_loopg [7, 37] xs.length (fun k v i wr => ∃ j : Nat, j + k = xs.length ∧ i = .int .i64 (j : Int) ∧ wr.ownsRow w.heap.size 41 5 v j ((stcs (keyAt xs) idx j).flatMap Stp.cells) ∧ GM wr mb (seqAll (hn mo mu sh) (keyAt xs) idx j).es ∧ Below w.heap.size w wr ∧ wr.heap[bx]? = some (.cells #[.int .u32 mo, .int .u32 mu, .int .u8 sh] 24))
    case atStart => exact ⟨0, by omega, rfl, World.ownsRow_nil _ _ _ _, HGM.out, HB2.out, HX2.out⟩
    case round =>
      obtain ⟨j, hjk, rfl, ho, hg, hb, hx⟩ := hrel
      have HO := Lib.hid ho
      have HG := Lib.hid hg
      have HB := Lib.hid hb
      have HXR := Lib.hid hx
      clear ho hg hb hx HGM HX2 HB2
      have hw1 : IntKind.i64.wrap ((j : Int) + 1) = (j : Int) + 1 := by have := HXL.out; rw [IntKind.wrap_i64]; omega
      by_cases hlt : j < xs.length
      · have h1 : decide ((j : Int) < (xs.length : Int)) = true := by simp; omega
        obtain ⟨x, hxj⟩ : ∃ e, xs[j]? = some e := ⟨xs[j], List.getElem?_eq_getElem hlt⟩
        obtain ⟨ka', kc', hkv, hkk⟩ := HK.out.below HB.out
        simp only [Value.slice.injEq] at hkv
        obtain ⟨kg, ko, rfl, hkc⟩ : ∃ kg ko, ka = some ⟨kg, ko, none⟩ ∧ wr.cell? ⟨kg, ko + j, none⟩ = some (.int .i64 x) := by
          obtain ⟨kg, ko, h8, h9⟩ := hkk j x hxj
          exact ⟨kg, ko, hkv.1.trans h8, h9⟩
        have HKJ := Lib.hid (keyAt_of hxj)
        have HWX := Lib.hid (HXW.out x (List.mem_of_getElem? hxj))
        clear hkk hkv hxj
        go_wp2_with (at_builtin; refine wpList_append_own _ rfl (.tmp 42) (.tmp 47) 25 rfl w.heap.size 41 i41 (.agg #[.int .u8 0, .int .i64 0, .int .i64 0, .int .i64 0, .int .i64 0]) 5 40 Try.underlying25 HI.out.1 HI.out.2.1 HI.out.2.2.1 HI.out.2.2.2 rfl (by decide) _ _ _ rfl (HO.out.alloc _) ⟨wr.heap.size, 0, none⟩ 1 1 (Stp.cells ⟨0, (j : Int), x, (j : Int), 0⟩) rfl rfl (stp_cells5 _ _) (stp_one _) (by have := HXL.out; unfold maxLen; omega) (by have := HXL.out; omega) (by have := HB.out.size; simp; omega) ?_)
        intro v2 w2 hown2 hgrow2 _
        have hA : Below wr.heap.size wr (wr.alloc (.cells (Stp.cells ⟨0, (j : Int), x, (j : Int), 0⟩).toArray 41)) := (Below.refl _ _).alloc (Nat.le_refl _) _
        have HO2 := Lib.hid hown2
        have HB2 := Lib.hid (below_grown (HB.out.alloc HB.out.size (.cells (Stp.cells ⟨0, (j : Int), x, (j : Int), 0⟩).toArray 41)) HO.out (Nat.le_refl _) (Nat.le_refl _) hgrow2)
        have HG2 := Lib.hid (GM.row HO.out hA hgrow2 HG.out)
        have HX2 : Hid (w2.heap[bx]? = some (.cells #[.int .u32 mo, .int .u32 mu, .int .u8 sh] 24)) := by
          have hl := lt_of_block HXR.out
          show w2.heap[bx]? = _
          rw [hgrow2.block bx (by rw [size_alloc]; omega) fun e1 => own_off HO.out HXR.out (by decide) bx e1.symm rfl]
          exact at_alloc HXR.out
        clear hown2 hgrow2 hA HO HB HG HXR hkc
        obtain ⟨Do, hDo, hDg⟩ := HG2.out
        have HDO := Lib.hid hDo
        have HDG := Lib.hid hDg
        have HLEN : Hid ((seqAll (hn mo mu sh) (keyAt xs) idx j).es.length ≤ j) := seqAll_len j
        clear hDo hDg
        go_wp2_with (first | (at_mapUpdate; refine wpList_mapUpdate_own _ rfl _ _ _ 39 rfl 2 2 key2 Try.underlying39 _ mb _ _ rfl HDO.out (by have := HLEN.out; have := HXL.out; unfold maxLen; omega) _ _ _ rfl rfl (keyOf_int_mk Try.underlying2 HWX.out) _ [] (plainElem_int Try.underlying2 (wf_nat (n := j) (by have := HXL.out; omega))) ?_; intro w3 hout3 hg3; go_frame) | go_in)
        have hmbw := HMB.out
        go_roundg (gk - 1)
        case measure => omega
        case rel =>
          refine ⟨j + 1, by omega, by go_num, ?_, ?_, HB2.out.grown hg3 HB2.out.size (fun i hi => by cases hi; exact hmbw), ?_⟩
          · have h9 := HO2.out.kept hg3 (own_ne_map HO2.out HG2.out)
            rw [stcs_succ, List.flatMap_append]
            have e1 : stc (keyAt xs) idx j = ⟨0, (j : Int), x, (j : Int), 0⟩ := by unfold stc; rw [HKJ.out, idx_of (by have := HXL.out; omega)]
            rw [e1]
            simpa [List.flatMap_cons, List.flatMap_nil] using h9
          · have h9 := GM.of hout3 (gd_put HDG.out (seqAll_once j) (MS.set_is (hn mo mu sh) _ (seqAll_once j) _ _))
            rw [seqAll_succ, HKJ.out, idx_of (by have := HXL.out; omega)]
            exact h9
          · rw [hg3.block bx (lt_of_block HX2.out) (by
              have := HX2.out
              intro e1
              obtain ⟨D, ⟨es', clock, hb, _⟩, _⟩ := HG2.out
              have e2 : bx = mb := by simpa using e1
              subst e2
              rw [hb] at this
              cases this)]
            exact HX2.out
      · have h1 : decide ((j : Int) < (xs.length : Int)) = false := by simp; omega
        obtain rfl : j = xs.length := by omega
        obtain ⟨wo, rfl⟩ : ∃ wo : World, wo = wr := ⟨_, rfl⟩
        obtain ⟨m1, hm1⟩ : ∃ m1, m1 = seqAll (hn mo mu sh) (keyAt xs) idx xs.length := ⟨_, rfl⟩
        rw [← hm1] at HG
        have HM1 := Lib.hid hm1
        have HON1 : Hid (Once m1.es) := by rw [hm1]; exact seqAll_once _
        obtain ⟨V2, hV2⟩ : ∃ V2 : Nat → Int, V2 = fun i => (look m1.es (keyRot xs s i)).getD 0 := ⟨_, rfl⟩
        have HV2 := Lib.hid hV2
        clear hm1 hV2 hjk
        go_wp2_with fail
        go_loopg [8, 55] xs.length (fun k v i wr => ∃ j : Nat, j + k = xs.length ∧ i = .int .i64 (j : Int) ∧ wr.ownsRow wo.heap.size 41 5 v j ((stcs (keyRot xs s) V2 j).flatMap Stp.cells) ∧ Below wo.heap.size wo wr)
        case atStart => exact ⟨0, by omega, rfl, World.ownsRow_nil _ _ _ _, Below.refl _ _⟩
        case round =>
          obtain ⟨j, hjk, rfl, ho, hb⟩ := hrel
          have HO2 := Lib.hid ho
          have HB2 := Lib.hid hb
          clear ho hb
          have hw1 : IntKind.i64.wrap ((j : Int) + 1) = (j : Int) + 1 := by have := HXL.out; rw [IntKind.wrap_i64]; omega
          by_cases hlt : j < xs.length
          · have h1 : decide ((j : Int) < (xs.length : Int)) = true := by simp; omega
            obtain ⟨p, hp⟩ : ∃ p, p = (j + s) % xs.length := ⟨_, rfl⟩
            have hpl : p < xs.length := by rw [hp]; exact Nat.mod_lt _ (by have := HNZ.out; omega)
            have hrot := rot_eq (j := j) (s := s) HNZ.out (by have := HXL.out; omega) HSS.out
            rw [← hp] at hrot
            have hnz : ¬ xs.length = 0 := HNZ.out
            have hpl' : (p : Int) < (xs.length : Int) := by omega
            obtain ⟨x, hxp⟩ : ∃ e, xs[p]? = some e := ⟨xs[p], List.getElem?_eq_getElem hpl⟩
            have HBW : Hid (Below w.heap.size w wr) := HB.out.trans (HB2.out.mono HB.out.size)
            obtain ⟨ka', kc', hkv, hkk⟩ := HK.out.below HBW.out
            simp only [Value.slice.injEq] at hkv
            obtain ⟨kg, ko, rfl, hkc⟩ : ∃ kg ko, ka = some ⟨kg, ko, none⟩ ∧ wr.cell? ⟨kg, ko + p, none⟩ = some (.int .i64 x) := by
              obtain ⟨kg, ko, h8, h9⟩ := hkk p x hxp
              exact ⟨kg, ko, hkv.1.trans h8, h9⟩
            have hkj : keyRot xs s j = x := by unfold keyRot; rw [← hp]; exact keyAt_of hxp
            have HKJ := Lib.hid hkj
            have hlk := gm_look_plain (HG.out.below HB2.out) HON1.out (HXW.out x (List.mem_of_getElem? hxp))
            obtain ⟨y, hy⟩ : ∃ y, y = (look m1.es x).getD 0 := ⟨_, rfl⟩
            rw [← hy] at hlk
            have HY : Hid (V2 j = y) := by show V2 j = y; rw [HV2.out, hy]; show (look m1.es (keyRot xs s j)).getD 0 = _; rw [hkj]
            have HP := Lib.hid hp
            clear hkk hkv hxp hkj hy hp
            go_wp2_with (at_builtin; refine wpList_append_own _ rfl (.tmp 68) (.tmp 75) 25 rfl wo.heap.size 41 i41 (.agg #[.int .u8 0, .int .i64 0, .int .i64 0, .int .i64 0, .int .i64 0]) 5 40 Try.underlying25 HI.out.1 HI.out.2.1 HI.out.2.2.1 HI.out.2.2.2 rfl (by decide) _ _ _ rfl (HO2.out.alloc _) ⟨wr.heap.size, 0, none⟩ 1 1 (Stp.cells ⟨0, (j : Int), x, y, 0⟩) rfl rfl (stp_cells5 _ _) (stp_one _) (by have := HXL.out; unfold maxLen; omega) (by have := HXL.out; omega) (by have := HB2.out.size; simp; omega) ?_)
            intro v3 w3 hown3 hgrow3 _
            have HO3 := Lib.hid hown3
            have HB3 := Lib.hid (below_grown (HB2.out.alloc HB2.out.size (.cells (Stp.cells ⟨0, (j : Int), x, y, 0⟩).toArray 41)) HO2.out (Nat.le_refl _) (Nat.le_refl _) hgrow3)
            clear hown3 hgrow3
            go_wp2_with fail
            go_roundg (gk - 1)
            case measure => omega
            case rel =>
              refine ⟨j + 1, by omega, by go_num, ?_, HB3.out⟩
              rw [stcs_succ, List.flatMap_append]
              have e1 : stc (keyRot xs s) V2 j = ⟨0, (j : Int), x, y, 0⟩ := by unfold stc; rw [HKJ.out, HY.out]
              rw [e1]
              simpa [List.flatMap_cons, List.flatMap_nil] using HO3.out
          · have h1 : decide ((j : Int) < (xs.length : Int)) = false := by simp; omega
            obtain rfl : j = xs.length := by omega
            have HXW3 := Lib.hid (below_at HB2.out HXR.out)
            have HG3 := Lib.hid (HG.out.below HB2.out)
            have HO3 := Lib.hid (own_below HO.out HB2.out)
            have HB3 := Lib.hid (HB.out.trans (HB2.out.mono HB.out.size))
            obtain ⟨w2, rfl⟩ : ∃ w2 : World, w2 = wr := ⟨_, rfl⟩
            clear HXR HG HO HB hjk
            go_upto_region 19 with (fail)
            have HSV1 : Hid (StpV w2 u7 (stcs (keyAt xs) idx xs.length)) := StpV.of_own HO3.out (stcs_len _ _ _).symm
            have HSV2 : Hid (StpV w2 u8 (stcs (keyRot xs s) V2 xs.length)) := StpV.of_own HO2.out (stcs_len _ _ _).symm
            have HR0 : Hid (Below w2.heap.size w2 w2.drew) := (Below.refl _ w2).drew
            have HC0 : Hid (∀ W, Below w2.heap.size w2 W → W.cell? ⟨bx, 0, none⟩ = some (.int .u32 mo) ∧ W.cell? ⟨bx, 1, none⟩ = some (.int .u32 mu) ∧ W.cell? ⟨bx, 2, none⟩ = some (.int .u8 sh)) := fun W hR => ⟨cell_at (j := 0) (below_at hR HXW3.out) rfl, cell_at (j := 1) (below_at hR HXW3.out) rfl, cell_at (j := 2) (below_at hR HXW3.out) rfl⟩
            clear HO3 HO2 HXW3 HB2
            refine region_segsR (fun W => Below w2.heap.size w2 W) [([0, 1, 4, 5], [2]), ([], [3]), ([], [6]), ([], [7]), ([], [8]), ([], [9])] (by kernel_rfl) (by intro dst v c a w h; cases dst <;> exact h) (by kernel_rfl) HR0.out ?_
            refine r_segs ?_
            simp only [opsOf, List.getElem?_toArray, List.getElem?_cons_succ, List.getElem?_cons_zero]
            repeat (refine r_read ?_ (by kernel_rfl) ?_ (fun K hK => ?_); rotate_left 1; (intro W hR; obtain ⟨x0, x1, x2⟩ := HC0.out W hR; clear hR; go_simp; try with_reducible rfl); go_simp; refine hK _ ?_; clear hK K)
            refine r_nil1 ?_
            refine r_op rfl (fun K hK => ?_)
            go_simp
            refine (mapTo_w _ _ _ (HSV1.out.below HR0.out) (by rw [stcs_len]; have := HXL.out; omega)).mono ?_
            rintro e w3 ⟨v, rfl, hv, hb3⟩
            have HV3 := Lib.hid hv
            have HB4 : Hid (Below w2.heap.size w2 w3) := Below.undrew hb3
            clear hb3 hv
            refine hK _ _ HB4.out ?_
            clear hK K
            refine r_segs ?_
            simp only [opsOf]
            refine r_nil1 ?_
            refine r_op rfl (fun K hK => ?_)
            go_simp
            refine (run_w (hn mo mu sh) mo mu sh HH.out H0.out v _ w3 HV3.out (by rw [stcs_len]; have := HXL.out; omega)).mono ?_
            rintro e w5 ⟨r, rfl, hr, hb5⟩
            have HR4 := Lib.hid hr
            clear hr
            have HB5 : Hid (Below w2.heap.size w2 w5) := HB4.out.trans (hb5.mono HB4.out.size)
            clear hb5
            refine hK _ _ HB5.out ?_
            clear hK K
            refine r_segs ?_
            simp only [opsOf]
            refine r_nil1 ?_
            refine r_op rfl (fun K hK => ?_)
            go_simp
            refine (mapTo_w _ _ _ (HSV2.out.below HB5.out) (by rw [stcs_len]; have := HXL.out; omega)).mono ?_
            rintro e w6 ⟨v5, rfl, hv, hb6⟩
            have HV5 := Lib.hid hv
            have HR5 := Lib.hid (HR4.out.below hb6)
            clear hv
            have HB6 : Hid (Below w2.heap.size w2 w6) := HB5.out.trans (hb6.mono HB5.out.size)
            clear hb6
            refine hK _ _ HB6.out ?_
            clear hK K
            refine r_segs ?_
            simp only [opsOf]
            refine r_nil1 ?_
            refine r_op rfl (fun K hK => ?_)
            go_simp
            refine (run_w (hn mo mu sh) mo mu sh HH.out H0.out v5 _ w6 HV5.out (by rw [stcs_len]; have := HXL.out; omega)).mono ?_
            rintro e w7 ⟨r6, rfl, hr, hb7⟩
            have HR6 := Lib.hid hr
            have HR7 := Lib.hid (HR5.out.below hb7)
            clear hr
            have HB7 : Hid (Below w2.heap.size w2 w7) := HB6.out.trans (hb7.mono HB6.out.size)
            clear hb7
            refine hK _ _ HB7.out ?_
            clear hK K
            refine r_segs ?_
            simp only [opsOf]
            refine r_nil1 ?_
            refine r_op rfl (fun K hK => ?_)
            go_simp
            refine hK _ _ HB7.out ?_
            clear hK K
            refine r_segs ?_
            simp only [opsOf]
            refine r_nil1 ?_
            refine r_op rfl (fun K hK => ?_)
            go_simp
            refine hK _ _ HB7.out ?_
            clear hK K
            refine r_end ?_
            have hl1 : (versM (hn mo mu sh) (stcs (keyAt xs) idx xs.length) [MS.empty]).length = xs.length + 1 := by rw [versM_len, stcs_len]; rfl
            have hl2 : (versM (hn mo mu sh) (stcs (keyRot xs s) V2 xs.length) [MS.empty]).length = xs.length + 1 := by rw [versM_len, stcs_len]; rfl
            obtain ⟨rg1, rc1, rfl⟩ := seens_shape HR7.out (by omega)
            obtain ⟨rg2, rc2, rfl⟩ := seens_shape HR6.out (by omega)
            have HM2 := Lib.hid (seqAll_again (h := hn mo mu sh) (K := keyAt xs) (V := idx) (K' := keyRot xs s) (V' := V2) (n := xs.length)
              (fun i hi => ⟨(i + s) % xs.length, Nat.mod_lt _ (by omega), rfl⟩)
              (fun j hj => rot_onto hj s)
              (fun i hi => by rw [HV2.out, HM1.out]))
            have HL1 := Lib.hid hl1
            have HL2 := Lib.hid hl2
            obtain ⟨n1, hn1⟩ : ∃ n1, n1 = xs.length + 1 := ⟨_, rfl⟩
            have hwn : IntKind.i64.wrap ((xs.length : Int) + 1) = (n1 : Int) := by have := HXL.out; rw [IntKind.wrap_i64, hn1]; omega
            rw [hl1, hl2, ← hn1]
            have HN1 := Lib.hid hn1
            have HG7 := Lib.hid (HG3.out.below HB7.out)
            have HBF : Hid (Below w.heap.size w w7) := HB3.out.trans (HB7.out.mono HB3.out.size)
            clear hl1 hl2 hn1 HC0 HR0 HSV1 HSV2 HV3 HV5 HR5 HR4 HB4 HB5 HB6 HG3 HB3
            go_upto_region 21 with (fail)
            have HSE1 := Lib.hid (Seens.last (c' := rc1 - xs.length) HR7.out (chain_last xs.length) HL1.out)
            have HSE2 := Lib.hid (Seens.last (c' := rc2 - xs.length) HR6.out (chain_last xs.length) HL2.out)
            have q1 := slice32_l rg1 xs.length rc1 (by have := seens_cap HR7.out; have := HL1.out; omega)
            have q2 := slice32_l rg2 xs.length rc2 (by have := seens_cap HR6.out; have := HL2.out; omega)
            rw [← HN1.out] at q1 q2
            clear HR7 HR6 HL1 HL2
            go_wp2_with fail
            have hA : Below w7.heap.size w7 (w7.alloc (.cells #[.map (some mb)] 39)) := (Below.refl _ _).alloc (Nat.le_refl _) _
            have hw1a : WfAll m1.es := by
              rw [HM1.out]
              exact seqAll_wf (fun i => keyAt_wf HXW.out i) idx_wf _
            have hall1 : ∀ m ∈ [m1], Once m.es ∧ WfAll m.es ∧ m.es.length ≤ 100000000 := fun m hm => by
              simp only [List.mem_singleton] at hm
              subst hm
              refine ⟨HON1.out, hw1a, ?_⟩
              rw [HM1.out]
              have := seqAll_len (h := hn mo mu sh) (K := keyAt xs) (V := idx) xs.length
              have := HXL.out
              omega
            have hall2 : ∀ m ∈ [seqAll (hn mo mu sh) (keyRot xs s) V2 xs.length], Once m.es ∧ WfAll m.es ∧ m.es.length ≤ 100000000 := fun m hm => by
              simp only [List.mem_singleton] at hm
              subst hm
              refine ⟨seqAll_once _, seqAll_wf (fun i => keyAt_wf HXW.out _) (fun i => by rw [HV2.out]; exact look_wf HON1.out hw1a _) _, ?_⟩
              have := seqAll_len (h := hn mo mu sh) (K := keyRot xs s) (V := V2) xs.length
              have := HXL.out
              omega
            have HALL2 := Lib.hid hall2
            have HSE1' := HSE1.out
            rw [← HM1.out] at HSE1'
            refine (mapSame_l [m1] _ _ _ (HSE1'.below hA) (gl_one HG7.out) (by simp) hall1).mono ?_
            rintro e w8 ⟨rfl, hb8⟩
            have HB8 : Hid (Below w7.heap.size w7 w8) := hA.trans (hb8.mono hA.size)
            have HG8 := Lib.hid (HG7.out.below HB8.out)
            clear hA hall1 hall2 HSE1' hb8 hw1a q1
            go_wp2_with fail
            have hA : Below w8.heap.size w8 (w8.alloc (.cells #[.map (some mb)] 39)) := (Below.refl _ _).alloc (Nat.le_refl _) _
            have HG9 : GM w8 mb (seqAll (hn mo mu sh) (keyRot xs s) V2 xs.length).es := HG8.out.of_look HON1.out (seqAll_once _) fun k => by rw [HM2.out k, HM1.out]
            refine (mapSame_l [seqAll (hn mo mu sh) (keyRot xs s) V2 xs.length] _ _ _ ((HSE2.out.below HB8.out).below hA) (gl_one HG9) (by simp) HALL2.out).mono ?_
            rintro e w9 ⟨rfl, hb9⟩
            have HB9 : Hid (Below w7.heap.size w7 w9) := HB8.out.trans ((hA.trans (hb9.mono hA.size)).mono HB8.out.size)
            clear hA hb9 HG9 q2
            go_wp2_with fail
            refine (awake_w w9).mono ?_
            rintro e w10 ⟨rfl, hb10⟩
            have HB10 : Hid (Below w7.heap.size w7 w10) := HB9.out.trans (hb10.mono HB9.out.size)
            clear hb10
            go_wp2_with fail
            refine bodyPost_ret (results_tmp rfl _ _ _) rfl ?_
            exact ⟨rfl, HBF.out.trans (HB10.out.mono HBF.out.size)⟩
end Go.Proofs.Ytpkndcmgialgcaa
