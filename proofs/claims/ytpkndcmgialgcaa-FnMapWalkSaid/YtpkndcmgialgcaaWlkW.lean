/- impl.MapWalk: the walk. -/
import Derived.Test.YtpkndcmgialgcaaWlkM
namespace Go.Proofs.Ytpkndcmgialgcaa
open Go.RowKit Go.Maps

/-- what the walk over an iterator leaves -/
def Walked (w : World) (B : Nat) (p o d : Value) (es : List (Int × Int)) (bs : List Bool) (n : Nat) : Prop :=
  w.ownsRow B 52 2 p n (ecells (mvPairs es bs n)) ∧ w.ownsRow B 4 1 o n ((mvOks es bs n).map Value.bool) ∧ w.ownsRow B 4 1 d n ((mvDones es bs n).map Value.bool)

theorem Walked.below {w w' : World} {B : Nat} {p o d : Value} {es : List (Int × Int)} {bs : List Bool} {n : Nat} (h : Walked w B p o d es bs n) (hb : Below w.heap.size w w') : Walked w' B p o d es bs n := ⟨own_below h.1 hb, own_below h.2.1 hb, own_below h.2.2 hb⟩
theorem But.two {S T : Nat → Prop} {a w : World} (h : But S a w) (hST : ∀ k, S k → T k) : But T a w := ⟨h.os, h.tape, h.output, h.size, fun k hk hs => h.block k hk fun e => hs (hST k e)⟩

theorem results_tmp4 {fn : Func} {t u v x : Tmp} (h : fn.results = #[.tmp t, .tmp u, .tmp v, .tmp x]) (tmps : Array Value) (P : Program) (w : World) :
    (results fn tmps).run P w = .ok (.tuple #[tmps.getD t undef, tmps.getD u undef, tmps.getD v undef, tmps.getD x undef]) w := by
  simp [results, h]
theorem st_two {h : Int → Nat} {S : Nat → Prop} {W : World} {trie : Bool} {ib mb q : Nat} {rest : List (Int × Int)} {a b u v : Value} (n : St h S W trie ib mb rest) (hx : W.heap[q]? = some (.cells #[a, b] 52 (0, 0))) (hne : q ≠ ib) :
    St h S ((W.setCell ⟨q, 0, none⟩ u).setCell ⟨q, 1, none⟩ v) trie ib mb rest ∧ ((W.setCell ⟨q, 0, none⟩ u).setCell ⟨q, 1, none⟩ v).heap[q]? = some (.cells #[u, v] 52 (0, 0)) ∧ But (· = q) W ((W.setCell ⟨q, 0, none⟩ u).setCell ⟨q, 1, none⟩ v) := by
  have hbs : But (· = q) W ((W.setCell ⟨q, 0, none⟩ u).setCell ⟨q, 1, none⟩ v) := ((But.refl (· = q) W).setCell (.inl rfl) _).setCell (.inl rfl) _
  refine ⟨n.stay (fun b c t hb ht => hbs.at hb fun e1 => by
      subst e1
      rw [hx] at hb
      simp only [Option.some.injEq, Obj.cells.injEq] at hb
      exact absurd (hb.2.1 ▸ ht) (by unfold Own; simp)) fun arr ha => hbs.at ha fun e1 => hne e1.symm, ?_, hbs⟩
  have h1 := heap_setCell_same W q 0 _ 52 u hx
  exact heap_setCell_same (W.setCell ⟨q, 0, none⟩ u) q 1 _ 52 v h1

set_option maxRecDepth 100000 in
set_option maxHeartbeats 3200000 in
theorem mapWalk_w (h : Int → Nat) (mo mu sh : Int) (hH : HashIs mo mu sh h) (h0 : (mo == 0) = false) (sv bv : Value) (steps : List Stp) (bs : List Bool) (f : Nat) (m : MS Int Int) (w : World) (hs : StpW w sv steps) (hb : BoolsV w bv bs) (hn : steps.length ≤ 500) (hbn : bs.length ≤ 1000) (hm : (versM h steps [MS.empty])[f]? = some m) :
    Calls Try.prog 26 #[av mo mu sh, sv, .int .i64 (f : Int), bv] w fun e w' => ∃ p o d, e = .returned (.tuple #[.bool m.es.isEmpty, p, o, d]) ∧ Walked w' w.heap.size p o d m.es bs bs.length ∧ Below w.heap.size w w' := by
  obtain ⟨i52, hi, hz0, hz1, hz2⟩ := info_parts info52
  have HI := Lib.hid (And.intro hi (And.intro hz0 (And.intro hz1 hz2)))
  clear hi hz0 hz1 hz2
  obtain ⟨i4, hi, hz0, hz1, hz2⟩ := info_parts info4
  have HI4 := Lib.hid (And.intro hi (And.intro hz0 (And.intro hz1 hz2)))
  clear hi hz0 hz1 hz2
  have HS := Lib.hid hs
  have HH := Lib.hid hH
  have H0 := Lib.hid h0
  have HN := Lib.hid hn
  have HXN := Lib.hid hbn
  have hbx : Below w.heap.size w (w.alloc (.cells #[.int .u32 mo, .int .u32 mu, .int .u8 sh] 34)) := (Below.refl _ _).alloc (Nat.le_refl _) _
  have HMO := Lib.hid (mapsOf_w h mo mu sh HH.out H0.out sv steps _ (HS.out.below hbx) HN.out)
  have HBX := Lib.hid hbx
  have HK := Lib.hid (hb.below hbx)
  obtain ⟨ka, kc, rfl, -⟩ := hb
  clear hs hH h0 hn hbn hbx
  obtain ⟨vs, hvs⟩ : ∃ vs, vs = versM h steps [MS.empty] := ⟨_, rfl⟩
  rw [← hvs] at hm
  have hfl : f < vs.length := (List.getElem?_eq_some_iff.1 hm).1
  have hvl : vs.length = steps.length + 1 := by rw [hvs, versM_len]; rfl
  have hok : AllOk (steps.length + 1) vs := by
    rw [hvs]
    exact versM_ok (h := h) steps 1 [MS.empty] empty_ok
  obtain ⟨hon, hml⟩ := hok m (List.mem_of_getElem? hm)
  have HML : Hid (m.es.length < 80000000) := by show _ < _; have := HN.out; omega
  have HM := Lib.hid hm
  have HVS := Lib.hid hvs
  have HVL := Lib.hid hvl
  clear hvs hvl hok hon hml hm
  unfold av
  go_enter Try.func26, Try.ntmps26
  go_wp2_with fail
  refine HMO.out.mono ?_
  rintro e w1 ⟨l, rfl, hv, hb1⟩
  have hvs := HVS.out
  rw [← hvs] at hv
  obtain ⟨ptrs, hoL, hpl, hpI⟩ := hv
  obtain ⟨g, lcap, rfl⟩ := own_shape hoL (by omega)
  obtain ⟨r, hr⟩ : ∃ r, ptrs[f]? = some r := ⟨ptrs[f]'(by rw [hpl]; exact hfl), List.getElem?_eq_getElem _⟩
  obtain ⟨m', hm', mb, rfl, hmap⟩ := hpI f r hr
  rw [HM.out] at hm'
  cases hm'
  have hcm : w1.cell? ⟨g, f, none⟩ = some (.pointer (some ⟨mb, 0, none⟩)) := own_cell hoL hr
  have HMAP := Lib.hid hmap
  have HB1 : Hid (Below w.heap.size w w1) := HBX.out.trans (hb1.mono HBX.out.size)
  have HK1 := Lib.hid (HK.out.below hb1)
  have d1 : decide ((f : Int) < 0) = false := by simp
  have d3 : ¬ vs.length ≤ f := by omega
  have d2 : decide ((vs.length : Int) ≤ (f : Int)) = false := by simp; omega
  have hfl' : (f : Int) < (vs.length : Int) := by omega
  clear hvs hoL hpl hpI hr hmap hb1 HMO HBX HK HM HVS
  go_wp2_with fail
  refine (iter_w (by have := HML.out; omega) HMAP.out).mono ?_
  rintro e w2 ⟨rfl, hb2, hst⟩
  have HST := Lib.hid hst
  have HB2 := Lib.hid hb2
  have HLT : Hid (w1.heap.size < w2.heap.size) := by
    obtain ⟨arr, ⟨h1, _⟩ | ⟨_, _, _, _, _, _, _, h2, _⟩⟩ := hst
    · exact lt_of_block h1.1
    · exact lt_of_block h2.1
  obtain ⟨ib, hib⟩ : ∃ ib, ib = w1.heap.size := ⟨_, rfl⟩
  have HIB := Lib.hid hib
  rw [← hib] at HST ⊢
  clear hst hb2 hib hcm
  go_wp2_with fail
  refine (done_w HST.out).mono ?_
  rintro e w' ⟨rfl, rfl⟩
  go_wp2_with fail
  go_loopg [9, 10, 11, 38] bs.length (fun k p o d i wr => ∃ j : Nat, j + k = bs.length ∧ i = .int .i64 (j : Int) ∧ Walked wr w2.heap.size p o d m.es bs j ∧ (o.ownBlock = none ∨ o.ownBlock ≠ d.ownBlock) ∧ Below w1.heap.size w1 wr ∧ w2.heap.size ≤ wr.heap.size ∧ St h Any wr m.trie ib mb (mvs m.es (bs.take j)))
  case atStart => exact ⟨0, by omega, rfl, ⟨World.ownsRow_nil _ _ _ _, World.ownsRow_nil _ _ _ _, World.ownsRow_nil _ _ _ _⟩, .inl rfl, HB2.out, Nat.le_refl _, HST.out⟩
  case round =>
    obtain ⟨j, hjk, rfl, hwk, hod, hbw, hsz, hst⟩ := hrel
    have HWK := Lib.hid hwk
    have HOD := Lib.hid hod
    have HB := Lib.hid hbw
    have HSZ := Lib.hid hsz
    have HST2 := Lib.hid hst
    clear hwk hod hbw hsz hst HST
    have hw1 : IntKind.i64.wrap ((j : Int) + 1) = (j : Int) + 1 := by have := HXN.out; rw [IntKind.wrap_i64]; omega
    by_cases hlt : j < bs.length
    · have h1 : decide ((j : Int) < (bs.length : Int)) = true := by simp; omega
      obtain ⟨b, hbj⟩ : ∃ e, bs[j]? = some e := ⟨bs[j], List.getElem?_eq_getElem hlt⟩
      obtain ⟨ka', kc', hkv, hkk⟩ := HK1.out.below HB.out
      simp only [Value.slice.injEq] at hkv
      obtain ⟨kg, ko, rfl, hkc⟩ : ∃ kg ko, ka = some ⟨kg, ko, none⟩ ∧ wr.cell? ⟨kg, ko + j, none⟩ = some (.bool b) := by
        obtain ⟨kg, ko, h8, h9⟩ := hkk j b hbj
        exact ⟨kg, ko, hkv.1.trans h8, h9⟩
      have HBJ := Lib.hid hbj
      obtain ⟨rest, hrest⟩ : ∃ rest, rest = mvs m.es (bs.take j) := ⟨_, rfl⟩
      rw [← hrest] at HST2
      have HREST := Lib.hid hrest
      have hrl : rest.length < 80000000 := by rw [hrest]; have := mvs_len m.es (bs.take j); have := HML.out; omega
      have HRL := Lib.hid hrl
      clear hkk hkv hbj hrest hrl
      go_upto_region 11 with (fail)
      have hA : Below wr.heap.size wr (wr.alloc (.cells #[.int .i64 0, .int .i64 0] 52)) := (Below.refl _ _).alloc (Nat.le_refl _) _
      have HX := Lib.hid (heap_alloc_last wr (.cells #[.int .i64 0, .int .i64 0] 52))
      have HWKX := Lib.hid (HWK.out.below hA)
      have HBX := Lib.hid (HB.out.trans (hA.mono HB.out.size))
      have HSTX := Lib.hid (HST2.out.stay (Stay.of_below hA) fun arr ha => below_at hA ha)
      have HQ : Hid (ib < wr.heap.size ∧ w2.heap.size ≤ wr.heap.size) := ⟨by have := HLT.out; have := HIB.out; have := HSZ.out; omega, HSZ.out⟩
      have HPQ : Hid ((∀ k, u9.ownBlock = some k → k < wr.heap.size) ∧ (∀ k, u10.ownBlock = some k → k < wr.heap.size) ∧ ∀ k, u11.ownBlock = some k → k < wr.heap.size) := ⟨fun k hk => (HWK.out.1.lt k hk).2, fun k hk => (HWK.out.2.1.lt k hk).2, fun k hk => (HWK.out.2.2.lt k hk).2⟩
      clear hA hkc HWK HB HST2 HSZ
      generalize wr.alloc (.cells #[.int .i64 0, .int .i64 0] 52) = X at HX HWKX HBX HSTX ⊢
      obtain ⟨q, hq⟩ : ∃ q, q = wr.heap.size := ⟨_, rfl⟩
      rw [← hq] at HX HQ HPQ ⊢
      clear hq
      go_upto_if 42 with (fail)
      go_cut [17, 42] from 43 to 52 (fun v _ wc => v = .bool (mvOk b rest) ∧ wc.heap[q]? = some (.cells #[.int .i64 (mvPair b rest).1, .int .i64 (mvPair b rest).2] 52) ∧ St h Any wc m.trie ib mb (mvRest m.es b rest) ∧ But (fun x => x = ib ∨ x = q) X wc)
      case first =>
        cases b with
        | true =>
          have hit : ∃ arr dd, ItB X ib mb arr dd := by
            obtain ⟨arr, ⟨h1, _⟩ | ⟨_, _, _, _, _, _, _, h2, _⟩⟩ := HSTX.out
            · exact ⟨_, _, h1⟩
            · exact ⟨_, _, h2⟩
          obtain ⟨arr, dd, hit⟩ := hit
          have HF := Lib.hid (ifirst_any (by have := HML.out; omega) hit (HMAP.out.keeps (Keeps.of_stay (Stay.of_below HBX.out))))
          clear hit
          go_wp2_with fail
          refine HF.out.mono ?_
          rintro e w4 ⟨rfl, hb4, hst4⟩
          have HB4 := Lib.hid hb4
          have HST4 := Lib.hid hst4
          clear hb4 hst4 HF
          go_wp2_with fail
          go_meet
          case rel => exact ⟨rfl, HB4.out.at HX.out (by have := HQ.out; omega), HST4.out, HB4.out.two fun k e => .inl e⟩
        | false =>
          cases rest with
          | nil =>
            have f0 : X.frozen? ⟨q, 0, none⟩ = false := frozen_of_row _ _ _ _ _ HX.out
            have c0 := cell_at (j := 0) HX.out rfl
            have c1 := cell_at (j := 1) HX.out rfl
            have f1 : X.frozen? ⟨q, 1, none⟩ = false := frozen_of_row _ _ _ _ _ HX.out
            go_wp2_with fail
            refine (next_e HSTX.out).mono ?_
            rintro e w4 ⟨rfl, rfl⟩
            go_wp2_with fail
            have hqi : q ≠ ib := by have := HQ.out; omega
            obtain ⟨t1, t2, t3⟩ := st_two (u := .int .i64 0) (v := .int .i64 0) HSTX.out HX.out hqi
            go_meet
            case rel => exact ⟨rfl, t2, t1, t3.two fun k e => .inr e⟩
          | cons y rest =>
            have HN2 := Lib.hid (next_s (by have := HRL.out; simp only [List.length_cons] at this; omega) HSTX.out)
            obtain ⟨y1, y2⟩ := y
            go_wp2_with fail
            refine HN2.out.mono ?_
            rintro e w4 ⟨rfl, hb4, hst4⟩
            have hqi : q ≠ ib := by have := HQ.out; omega
            have HX4 := Lib.hid (hb4.at HX.out hqi)
            have HB4 := Lib.hid hb4
            have HST4 := Lib.hid hst4
            clear hb4 hst4 HN2 hqi
            have f0 : w4.frozen? ⟨q, 0, none⟩ = false := frozen_of_row _ _ _ _ _ HX4.out
            have c0 := cell_at (j := 0) HX4.out rfl
            have c1 := cell_at (j := 1) HX4.out rfl
            have f1 : w4.frozen? ⟨q, 1, none⟩ = false := frozen_of_row _ _ _ _ _ HX4.out
            go_wp2_with fail
            have hqi : q ≠ ib := by have := HQ.out; omega
            obtain ⟨t1, t2, t3⟩ := st_two (u := .int .i64 y1) (v := .int .i64 y2) HST4.out HX4.out hqi
            go_meet
            case rel => exact ⟨rfl, t2, t1, (HB4.out.two fun k e => .inl e).trans (t3.two fun k e => .inr e)⟩
      case rest =>
        obtain ⟨rfl, hq4, hst4, hbut⟩ := hcut
        obtain ⟨w4, rfl⟩ : ∃ w4 : World, w4 = wc := ⟨_, rfl⟩
        obtain ⟨P1, P2, P3⟩ := HPQ.out
        have HO1 := Lib.hid (own_but HWKX.out.1 hbut fun k hk e1 => by have := P1 k hk; have := (HWKX.out.1.lt k hk).1; have := HLT.out; have := HIB.out; omega)
        have HO2 := Lib.hid (own_but HWKX.out.2.1 hbut fun k hk e1 => by have := P2 k hk; have := (HWKX.out.2.1.lt k hk).1; have := HLT.out; have := HIB.out; omega)
        have HO3 := Lib.hid (own_but HWKX.out.2.2 hbut fun k hk e1 => by have := P3 k hk; have := (HWKX.out.2.2.lt k hk).1; have := HLT.out; have := HIB.out; omega)
        have HX4 := Lib.hid hq4
        have HST4 := Lib.hid hst4
        have HB4 := Lib.hid hbut
        clear P1 P2 P3 hq4 hst4 hbut HX HWKX HSTX
        have HW2 : Hid (w2.heap.size ≤ w4.heap.size) := by
          have h1 := HB4.out.size
          have h2 := lt_of_block HX4.out
          have h3 := HQ.out
          show _ ≤ _
          have h4 : q < w4.heap.size := h2
          omega
        obtain ⟨y1, hy1⟩ : ∃ y, y = (mvPair b rest).1 := ⟨_, rfl⟩
        obtain ⟨y2, hy2⟩ : ∃ y, y = (mvPair b rest).2 := ⟨_, rfl⟩
        obtain ⟨y3, hy3⟩ : ∃ y, y = mvOk b rest := ⟨_, rfl⟩
        rw [← hy1, ← hy2] at HX4
        rw [← hy3]
        have HY1 := Lib.hid hy1
        have HY2 := Lib.hid hy2
        have HY3 := Lib.hid hy3
        clear hy1 hy2 hy3
        have c0 := cell_at (j := 0) HX4.out rfl
        have c1 := cell_at (j := 1) HX4.out rfl
        go_wp2_with (at_builtin; refine wpList_append_own _ rfl (.tmp 53) (.tmp 55) 44 rfl w2.heap.size 52 i52 (.agg #[.int .i64 0, .int .i64 0]) 2 16 Try.underlying44 HI.out.1 HI.out.2.1 HI.out.2.2.1 HI.out.2.2.2 rfl (by decide) _ _ _ rfl (HO1.out.alloc _) ⟨w4.heap.size, 0, none⟩ 1 1 [.int .i64 y1, .int .i64 y2] rfl rfl (pair_new _ _ _ _) (pair_one _ _) (by have := HXN.out; unfold maxLen; omega) (by have := HXN.out; omega) (by have := HW2.out; rw [size_alloc]; omega) ?_)
        intro v5 w5 hown5 hgrow5 _
        have hA4 : Below w4.heap.size w4 (w4.alloc (.cells #[.int .i64 y1, .int .i64 y2] 52)) := (Below.refl _ _).alloc (Nat.le_refl _) _
        have HP5 := Lib.hid hown5
        have HO5 := Lib.hid ((HO2.out.alloc (.cells #[.int .i64 y1, .int .i64 y2] 52)).kept hgrow5 (own_ne HO2.out HO1.out (by decide)))
        have HD5 := Lib.hid ((HO3.out.alloc (.cells #[.int .i64 y1, .int .i64 y2] 52)).kept hgrow5 (own_ne HO3.out HO1.out (by decide)))
        have HB45 := Lib.hid (below_grown ((Below.refl w2.heap.size w4).alloc HW2.out (.cells #[.int .i64 y1, .int .i64 y2] 52)) HO1.out (Nat.le_refl _) HW2.out hgrow5)
        have HST5 : Hid (St h Any w5 m.trie ib mb (mvRest m.es b rest)) := HST4.out.stay ((Stay.of_below hA4).trans (grown_stay (HO1.out.alloc _) (Below.refl _ _) hgrow5 (by unfold Own; simp))) fun arr ha => (HB45.out.block ib (by have := HLT.out; have := HIB.out; omega)).trans ha
        have HW5 : Hid (w2.heap.size ≤ w5.heap.size) := Nat.le_trans HW2.out HB45.out.size
        clear hown5 hgrow5 hA4 c0 c1 HST4
        go_wp2_with (at_builtin; refine wpList_append_own_at _ rfl (.tmp 57) (.tmp 59) 55 rfl w2.heap.size 4 i4 (.bool false) 1 1 Try.underlying55 HI4.out.1 HI4.out.2.1 HI4.out.2.2.1 HI4.out.2.2.2 rfl (by decide) _ _ _ rfl (HO5.out.alloc _) ⟨w5.heap.size, 0, none⟩ 1 1 [.bool y3] rfl rfl (new_cell _ _ _) (one_oneCell rfl) (by have := HXN.out; unfold maxLen; omega) (by have := HXN.out; omega) (by have := HW5.out; rw [size_alloc]; omega) ?_)
        intro v6 w6 hown6 hgrow6 _ hat6
        have hA5 : Below w5.heap.size w5 (w5.alloc (.cells #[.bool y3] 4)) := (Below.refl _ _).alloc (Nat.le_refl _) _
        have HP6 := Lib.hid ((HP5.out.alloc (.cells #[.bool y3] 4)).kept hgrow6 (own_ne HP5.out HO5.out (by decide)))
        have HO6 := Lib.hid hown6
        have hdo : u11.ownBlock = none ∨ u11.ownBlock ≠ u10.ownBlock := by
          rcases HOD.out with e | e
          · rw [e]
            rcases hu : u11.ownBlock with _ | k
            · exact .inl rfl
            · exact .inr (by simp)
          · exact .inr (fun e2 => e e2.symm)
        have HD6 := Lib.hid ((HD5.out.alloc (.cells #[.bool y3] 4)).kept hgrow6 hdo)
        have HB46 := Lib.hid (HB45.out.trans (below_grown ((Below.refl w2.heap.size w5).alloc HW5.out (.cells #[.bool y3] 4)) HO5.out (Nat.le_refl _) HW5.out hgrow6))
        have HST6 : Hid (St h Any w6 m.trie ib mb (mvRest m.es b rest)) := HST5.out.stay ((Stay.of_below hA5).trans (grown_stay (HO5.out.alloc _) (Below.refl _ _) hgrow6 (by unfold Own; simp))) fun arr ha => (below_grown ((Below.refl w2.heap.size w5).alloc HW5.out (.cells #[.bool y3] 4)) HO5.out (Nat.le_refl _) HW5.out hgrow6 |>.block ib (by have := HLT.out; have := HIB.out; omega)).trans ha
        have HW6 : Hid (w2.heap.size ≤ w6.heap.size) := Nat.le_trans HW2.out HB46.out.size
        have HAT6 : Hid (∀ k, v6.ownBlock = some k → k < w6.heap.size ∧ (u10.ownBlock = some k ∨ w5.heap.size < k)) := fun k hk => ⟨(hown6.lt k hk).2, by
          rcases hat6 with e | e
          · exact .inl (e.symm.trans hk)
          · rw [e] at hk
            have := Option.some.inj hk
            exact .inr (by omega)⟩
        clear hown6 hgrow6 hA5 hdo hat6 HST5
        go_wp2_with fail
        refine (done_w HST6.out).mono ?_
        rintro e w' ⟨rfl, rfl⟩
        obtain ⟨y4, hy4⟩ : ∃ y, y = (mvRest m.es b rest).isEmpty := ⟨_, rfl⟩
        rw [← hy4]
        have HY4 := Lib.hid hy4
        clear hy4
        go_wp2_with (at_builtin; refine wpList_append_own_at _ rfl (.tmp 61) (.tmp 64) 55 rfl w2.heap.size 4 i4 (.bool false) 1 1 Try.underlying55 HI4.out.1 HI4.out.2.1 HI4.out.2.2.1 HI4.out.2.2.2 rfl (by decide) _ _ _ rfl (HD6.out.alloc _) ⟨w6.heap.size, 0, none⟩ 1 1 [.bool y4] rfl rfl (new_cell _ _ _) (one_oneCell rfl) (by have := HXN.out; unfold maxLen; omega) (by have := HXN.out; omega) (by have := HW6.out; rw [size_alloc]; omega) ?_)
        intro v7 w7 hown7 hgrow7 _ hat7
        have hA6 : Below w6.heap.size w6 (w6.alloc (.cells #[.bool y4] 4)) := (Below.refl _ _).alloc (Nat.le_refl _) _
        have HP7 := Lib.hid ((HP6.out.alloc (.cells #[.bool y4] 4)).kept hgrow7 (own_ne HP6.out HD6.out (by decide)))
        have hod6 : v6.ownBlock = none ∨ v6.ownBlock ≠ u11.ownBlock := by
          rcases hv : v6.ownBlock with _ | k
          · exact .inl rfl
          · refine .inr fun e => ?_
            obtain ⟨_, e6⟩ := HAT6.out k hv
            have hdl := (HD5.out.lt k e.symm).2
            rcases e6 with e6 | e6
            · rcases HOD.out with e7 | e7
              · rw [e7] at e6; cases e6
              · exact e7 (e6.trans e)
            · omega
        have HO7 := Lib.hid ((HO6.out.alloc (.cells #[.bool y4] 4)).kept hgrow7 hod6)
        have HD7 := Lib.hid hown7
        have HB67 := Lib.hid (below_grown ((Below.refl w2.heap.size w6).alloc HW6.out (.cells #[.bool y4] 4)) HD6.out (Nat.le_refl _) HW6.out hgrow7)
        have HST7 : Hid (St h Any w7 m.trie ib mb (mvRest m.es b rest)) := HST6.out.stay ((Stay.of_below hA6).trans (grown_stay (HD6.out.alloc _) (Below.refl _ _) hgrow7 (by unfold Own; simp))) fun arr ha => (HB67.out.block ib (by have := HLT.out; have := HIB.out; omega)).trans ha
        have HOD7 : Hid (v6.ownBlock = none ∨ v6.ownBlock ≠ v7.ownBlock) := by
          rcases hv : v6.ownBlock with _ | k
          · exact .inl rfl
          · refine .inr fun e => ?_
            obtain ⟨e5, _⟩ := HAT6.out k hv
            rcases hat7 with e7 | e7
            · rcases hod6 with e8 | e8
              · rw [e8] at hv; cases hv
              · exact e8 (hv.trans (e.trans e7))
            · rw [e7] at e
              have := Option.some.inj e
              omega
        clear hown7 hgrow7 hA6 hat7 hod6 HST6
        go_wp2_with fail
        go_roundg (gk - 1)
        case measure => omega
        case rel =>
          have e1 : bs.take (j + 1) = bs.take j ++ [b] := by rw [List.take_add_one, HBJ.out]; rfl
          have e2 : bs.getD j false = b := by rw [List.getD_eq_getElem?_getD, HBJ.out]; rfl
          have e3 : mvs m.es (bs.take (j + 1)) = mvRest m.es b rest := by rw [e1, mvs_snoc, HREST.out]
          refine ⟨j + 1, by omega, by go_num, ⟨?_, ?_, ?_⟩, HOD7.out, ?_, ?_, ?_⟩
          · rw [mvPairs_succ, ecells_append, e2, ← HREST.out]
            have := HP7.out
            rw [HY1.out, HY2.out] at this
            exact this
          · rw [mvOks_succ, List.map_append, e2, ← HREST.out]
            have := HO7.out
            rw [HY3.out] at this
            exact this
          · rw [mvDones_succ, List.map_append, e3]
            have := HD7.out
            rw [HY4.out] at this
            exact this
          · have h4 : Below w1.heap.size w1 w4 := ⟨HB4.out.os.trans HBX.out.os, HB4.out.tape.trans HBX.out.tape, HB4.out.output.trans HBX.out.output, Nat.le_trans HBX.out.size HB4.out.size, fun k hk => (HB4.out.block k (Nat.lt_of_lt_of_le hk HBX.out.size) (by have := HIB.out; have := HQ.out; omega)).trans (HBX.out.block k hk)⟩
            have h12 : w1.heap.size ≤ w2.heap.size := Nat.le_of_lt HLT.out
            exact (h4.trans (HB46.out.mono h12)).trans (HB67.out.mono h12)
          · exact Nat.le_trans HW6.out HB67.out.size
          · rw [e3]; exact HST7.out
    · have h1 : decide ((j : Int) < (bs.length : Int)) = false := by simp; omega
      obtain rfl : j = bs.length := by omega
      go_wp2_with fail
      refine bodyPost_ret (results_tmp4 rfl _ _ _) rfl ?_
      have h12 : w.heap.size ≤ w2.heap.size := Nat.le_trans HB1.out.size (Nat.le_of_lt HLT.out)
      exact ⟨_, _, _, rfl, ⟨own_base HWK.out.1 h12, own_base HWK.out.2.1 h12, own_base HWK.out.2.2 h12⟩, HB1.out.trans (HB.out.mono HB1.out.size)⟩
end Go.Proofs.Ytpkndcmgialgcaa
