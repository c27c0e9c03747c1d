/- The walk over spec.ListVersions. Conditions of this file: none. -/
import Derived.Test.YtnahipfdnadccaaSpecT
namespace Go.Proofs.Ytnahipfdnadccaa
open Go.RowKit

/-- all steps are asked -/
def AllAsked (most : Nat) (steps : List Stp) : Prop := ∀ (i : Nat) (s : Stp), steps[i]? = some s → Asked most (i + 1) s
theorem AllAsked.snoc {most j n : Nat} {steps : List Stp} {s : Stp} (h : AllAsked most (steps.take j)) (hs : steps[j]? = some s) (ha : Asked most n s) (hn : n = j + 1) : AllAsked most (steps.take (j + 1)) := fun i a hi => by
  have hj : j < steps.length := (List.getElem?_eq_some_iff.1 hs).1
  have e1 : steps.take (j + 1) = steps.take j ++ [s] := by rw [List.take_add_one, hs]; rfl
  have hl : (steps.take j).length = j := by rw [List.length_take]; omega
  rw [e1] at hi
  rcases Nat.lt_or_ge i (steps.take j).length with h1 | h1
  · rw [List.getElem?_append_left h1] at hi
    exact h i a hi
  · rw [List.getElem?_append_right h1] at hi
    have h0 : i - (steps.take j).length = 0 := by
      rcases Nat.eq_zero_or_pos (i - (steps.take j).length) with h | h
      · exact h
      · rw [List.getElem?_eq_none (by simp; omega)] at hi; cases hi
    rw [h0] at hi
    simp only [List.getElem?_cons_zero, Option.some.injEq] at hi
    subst hi
    rw [show i + 1 = n by omega]
    exact ha

set_option maxRecDepth 100000 in
set_option maxHeartbeats 4000000 in
theorem versions_a (u sv : Value) (xs0 : List Int) (steps : List Stp) (most all : Nat) (w : World) (hu : SlN w u (xs0.map (Value.int .i64))) (hs : StpV w sv steps) (hl : steps.length ≤ 1000) (h0 : xs0.length ≤ 2147483647) (hm : most ≤ 100000) (ha : all ≤ 1000000) :
    Calls Try.prog 20 #[u, sv, .int .i64 (most : Int), .int .i64 (all : Int)] w fun e w' => ∃ l p ok, e = .returned (.tuple #[l, p, .bool ok]) ∧ Below w.heap.size w w' ∧
      (ok = true → ∃ T, T ≤ all ∧ SV w (versRun steps ([xs0], [])).1 (versRun steps ([xs0], [])).2 l p T w' ∧ AllAsked most steps) := by
  obtain ⟨i2, hi, hz0, hz1, hz2⟩ := info_parts info2
  have HI := Lib.hid (And.intro hi (And.intro hz0 (And.intro hz1 hz2)))
  clear hi hz0 hz1 hz2
  obtain ⟨i32, hi, hz0, hz1, hz2⟩ := info_parts info32
  have HI32 := Lib.hid (And.intro hi (And.intro hz0 (And.intro hz1 hz2)))
  clear hi hz0 hz1 hz2
  obtain ⟨i4, hi, hz0, hz1, hz2⟩ := info_parts info4
  have HI4 := Lib.hid (And.intro hi (And.intro hz0 (And.intro hz1 hz2)))
  clear hi hz0 hz1 hz2
  have HST := Lib.hid hs
  obtain ⟨sa, sc, rfl, hcells⟩ := hs
  have HCE := Lib.hid hcells
  have HU := Lib.hid hu
  obtain ⟨a, cap, rfl, hnil, hc⟩ := hu
  have HC := Lib.hid hc
  have HLN : Hid (xs0.length = (xs0.map (Value.int .i64)).length) := by show _ = _; simp
  have HL := Lib.hid hl
  have H0 := Lib.hid h0
  have HM := Lib.hid hm
  have HA := Lib.hid ha
  clear hcells hc hl h0 hm ha
  rw [← HLN.out]
  go_enter Try.func20, Try.ntmps20
  go_upto_region 1 with (fail)
  go_cut [8] from 16 to 19 (fun v8 wc => SV w [xs0] [] v8 (.slice none 0 0) xs0.length wc)
  case first =>
    cases a with
    | none =>
      have hc0 := hnil rfl
      subst hc0
      have hx0 : xs0 = [] := by
        cases xs0 with
        | nil => rfl
        | cons x r => obtain ⟨g, o, h, _⟩ := HC.out 0 _ rfl; cases h
      subst hx0
      have HO := Lib.hid (made0' w)
      have HS0 : Hid (SlS (w.alloc (.cells #[] 2)) (.slice (some ⟨w.heap.size, 0, none⟩) 0 0) (([] : List Int).map (Value.int .i64))) := SlS.of_own HO.out
      go_wp2_with (at_builtin; refine wpList_append_own_none rfl (.tmp 16) (.tmp 17) 32 rfl w.heap.size 2 i2 1 Try.underlying32 HI.out.1 _ 0 [] rfl HO.out rfl ?_)
      go_meet
      case rel =>
        have h := sv_first ((Below.refl _ w).alloc (Nat.le_refl _) _) HS0.out
        simpa using h
    | some ad =>
      go_wp2_with (at_builtin; refine wpList_append_own _ rfl (.tmp 16) (.tmp 17) 32 rfl w.heap.size 2 i2 (.int .i64 0) 1 8 Try.underlying32 HI.out.1 HI.out.2.1 HI.out.2.2.1 HI.out.2.2.2 rfl (by decide) _ _ _ rfl (made0' w) ad xs0.length cap (xs0.map (Value.int .i64)) rfl (by simp) (first_news HU.out) (ints_one xs0) (by have := H0.out; unfold maxLen; omega) (by have := H0.out; omega) (by simp) ?_)
      intro v1 w1 hown1 hgrow1 hnil1
      have HF := Lib.hid (first_own hown1 hnil1 hgrow1)
      obtain ⟨vg, vo, vc, rfl⟩ := HF.out.1.shape
      clear hown1 hgrow1 hnil1
      go_wp2_with fail
      go_meet
      case rel => exact sv_first HF.out.2 HF.out.1
  case rest =>
    have HV := Lib.hid hcut
    clear hcut hnil HU HC
    go_wp2_with fail
    go_loopg [8, 9, 11, 24] steps.length (fun k l p tot i wr => ∃ j T : Nat, j + k = steps.length ∧ i = .int .i64 (j : Int) ∧ tot = .int .i64 (T : Int) ∧ T ≤ 2147483647 ∧ SV w (versRun (steps.take j) ([xs0], [])).1 (versRun (steps.take j) ([xs0], [])).2 l p T wr ∧ AllAsked most (steps.take j))
    case atStart => exact ⟨0, xs0.length, by omega, rfl, rfl, H0.out, HV.out, fun i s h => by simp at h⟩
    case round =>
      clear HV
      obtain ⟨j, T, hjk, rfl, rfl, hT, hV, hq⟩ := hrel
      have HV := Lib.hid hV
      have HQ := Lib.hid hq
      clear hq
      have HT := Lib.hid hT
      clear hV hT
      have hw1 : IntKind.i64.wrap ((j : Int) + 1) = (j : Int) + 1 := by have := HL.out; rw [IntKind.wrap_i64]; omega
      by_cases hlt : j < steps.length
      · have h1 : decide ((j : Int) < (steps.length : Int)) = true := by simp; omega
        obtain ⟨⟨sk, sF, sI, sE, sV⟩, hs⟩ : ∃ s, s = steps[j] := ⟨_, rfl⟩
        have hs' : steps[j]? = some ⟨sk, sF, sI, sE, sV⟩ := by rw [List.getElem?_eq_getElem hlt, hs]
        obtain ⟨sb, so, rfl, hcells⟩ := HCE.out j _ hs'
        have hsb : sb < w.heap.size := World.block_lt_of_cell? w _ (hcells 0 _ rfl)
        have e0 : wr.cell? ⟨sb, so + j * 5, none⟩ = some (.int .u8 (sk : Int)) := (HV.out.below.cell hsb).trans (hcells 0 _ rfl)
        have e1 : wr.cell? ⟨sb, so + j * 5 + 1, none⟩ = some (.int .i64 sF) := (HV.out.below.cell hsb).trans (hcells 1 _ rfl)
        have e2 : wr.cell? ⟨sb, so + j * 5 + 2, none⟩ = some (.int .i64 sI) := (HV.out.below.cell hsb).trans (hcells 2 _ rfl)
        have e3 : wr.cell? ⟨sb, so + j * 5 + 3, none⟩ = some (.int .i64 sE) := (HV.out.below.cell hsb).trans (hcells 3 _ rfl)
        have e4 : wr.cell? ⟨sb, so + j * 5 + 4, none⟩ = some (.int .i64 sV) := (HV.out.below.cell hsb).trans (hcells 4 _ rfl)
        have HS := Lib.hid hs'
        clear hcells hs hs' hsb
        obtain ⟨⟨vs, ps⟩, hR⟩ : ∃ R, R = versRun (steps.take j) ([xs0], []) := ⟨_, rfl⟩
        have hvl : vs.length = j + 1 := by
          have := versRun_len (steps.take j) ([xs0], [])
          rw [← hR] at this
          simpa [List.length_take, Nat.min_eq_left (Nat.le_of_lt hlt), Nat.add_comm] using this
        have hpl : ps.length = j := by
          have := versRun_lenP (steps.take j) ([xs0], [])
          rw [← hR] at this
          simpa [List.length_take, Nat.min_eq_left (Nat.le_of_lt hlt)] using this
        have hV := HV.out
        rw [← hR] at hV
        have HV' := Lib.hid hV
        have HR := Lib.hid hR
        have HVL := Lib.hid hvl
        have HPL := Lib.hid hpl
        obtain ⟨us, hoL, hul, hall⟩ := hV.ownL
        rcases hoL.2 with ⟨_, hn0⟩ | ⟨g, lcap, cur, rfl, -, -, -, -, -, -⟩
        · simp only at hn0; omega
        clear HV hV hR hvl hpl hoL hul hall us cur
        simp only at HV' ⊢
        go_upto_region 6 with (fail)
        have hA : Below wr.heap.size wr (wr.alloc (.cells #[.int .u8 (sk : Int), .int .i64 sF, .int .i64 sI, .int .i64 sE, .int .i64 sV] 42)) := (Below.refl _ wr).alloc (Nat.le_refl _) _
        have hbx := heap_alloc_last wr (.cells #[.int .u8 (sk : Int), .int .i64 sF, .int .i64 sI, .int .i64 sE, .int .i64 sV] 42)
        have HVA := Lib.hid (HV'.out.step hA)
        generalize wr.heap.size = bx at hbx ⊢
        generalize wr.alloc (.cells #[.int .u8 (sk : Int), .int .i64 sF, .int .i64 sI, .int .i64 sE, .int .i64 sV] 42) = X at hbx HVA ⊢
        clear e0 e1 e2 e3 e4 hA HV' wr
        have s0 := cell_at (j := 0) hbx rfl
        have s1 := cell_at (j := 1) hbx rfl
        have s2 := cell_at (j := 2) hbx rfl
        have s3 := cell_at (j := 3) hbx rfl
        have s4 := cell_at (j := 4) hbx rfl
        go_cut [58] from 28 to 58 (fun v wc => ∃ b, v = .bool b ∧ (b = false → Asked most vs.length ⟨sk, sF, sI, sE, sV⟩) ∧ X = wc)
        case first =>
          clear HI HI32 HI4 HST HCE HL H0 HA HT HS HVA HR HVL HPL
          by_cases c1 : 5 < sk
          · have d1 : decide (5 < (sk : Int)) = true := by simp; omega
            go_wp2_with fail
            go_meet
            case rel => exact ⟨true, rfl, nofun, rfl⟩
          · have d1 : decide (5 < (sk : Int)) = false := by simp; omega
            by_cases c2 : sF < 0
            · have d2 : decide (sF < 0) = true := by simp [c2]
              go_wp2_with fail
              go_meet
              case rel => exact ⟨true, rfl, nofun, rfl⟩
            · have d2 : decide (sF < 0) = false := by simp; omega
              by_cases c3 : (vs.length : Int) ≤ sF
              · have d3 : decide ((vs.length : Int) ≤ sF) = true := by simp [c3]
                go_wp2_with fail
                go_meet
                case rel => exact ⟨true, rfl, nofun, rfl⟩
              · have d3 : decide ((vs.length : Int) ≤ sF) = false := by simp; omega
                by_cases c4 : 4 ≤ sk
                · have d4 : decide (4 ≤ (sk : Int)) = true := by simp; omega
                  by_cases c5 : sI < 0
                  · have d5 : decide (sI < 0) = true := by simp [c5]
                    go_wp2_with fail
                    go_meet
                    case rel => exact ⟨true, rfl, nofun, rfl⟩
                  · have d5 : decide (sI < 0) = false := by simp; omega
                    by_cases c6 : (most : Int) < sI
                    · have d6 : decide ((most : Int) < sI) = true := by simp [c6]
                      go_wp2_with fail
                      go_meet
                      case rel => exact ⟨true, rfl, nofun, rfl⟩
                    · have d6 : decide ((most : Int) < sI) = false := by simp; omega
                      go_wp2_with fail
                      go_meet
                      case rel => exact ⟨false, rfl, fun _ => ⟨by show sk ≤ 5; omega, by show 0 ≤ sF; omega, by show sF < _; omega, fun _ => ⟨by show 0 ≤ sI; omega, by show sI ≤ _; omega⟩⟩, rfl⟩
                · have d4 : decide (4 ≤ (sk : Int)) = false := by simp; omega
                  go_wp2_with fail
                  go_meet
                  case rel => exact ⟨false, rfl, fun _ => ⟨by show sk ≤ 5; omega, by show 0 ≤ sF; omega, by show sF < _; omega, fun h => by have : 4 ≤ sk := h; omega⟩, rfl⟩
        case rest =>
          obtain ⟨b, rfl, hask, rfl⟩ := hcut
          cases b with
          | true =>
            clear hask
            go_wp2_with fail
            refine bodyPost_ret (results_tmp3 rfl _ _ _) rfl ?_
            exact ⟨_, _, false, rfl, HVA.out.below, nofun⟩
          | false =>
            have HASK := Lib.hid (hask rfl)
            clear hask
            obtain ⟨f, rfl⟩ : ∃ f : Nat, sF = f := ⟨sF.toNat, by have := HASK.out.2.1; simp only at this; omega⟩
            have hf : f < vs.length := by have := HASK.out.2.2.1; simp only at this; omega
            obtain ⟨us, hoL, hul, hall⟩ := HVA.out.ownL
            obtain ⟨q, hq⟩ : ∃ q, us[f]? = some q := ⟨us[f]'(by rw [hul]; exact hf), List.getElem?_eq_getElem _⟩
            obtain ⟨xs, hxs, hqs, hxl⟩ := hall f q hq
            have hcell : X.cell? ⟨g, f, none⟩ = some q := own_cell hoL hq
            have HQ := Lib.hid hqs
            have HXL := Lib.hid (Nat.le_trans hxl HT.out)
            have HXS := Lib.hid hxs
            obtain ⟨qg, qo, qc, rfl⟩ := hqs.shape
            have hf' : (f : Int) < (vs.length : Int) := by omega
            have hIs : 4 ≤ sk → 0 ≤ sI ∧ sI ≤ 100000 := fun h => by have h1 := HASK.out.2.2.2 h; have h2 := HM.out; simp only at h1; omega
            have HDO : Hid (Calls Try.prog 32 #[.slice (some ⟨qg, qo, none⟩) xs.length qc, .agg #[.int .u8 (sk : Int), .int .i64 f, .int .i64 sI, .int .i64 sE, .int .i64 sV]] X.drew (DoPost X.drew xs sk sI sE sV)) :=
              do_any _ xs sk f sI sE sV X.drew (HQ.out.below (Below.refl _ X).drew).sln HXL.out HASK.out.1 hIs
            have HIS := Lib.hid hIs
            clear hoL hul hall hq hqs hxs hxl hIs us
            go_upto_region 8 with (fail)
            refine region_segs [([0, 1, 2, 3, 4, 5], 6), ([7, 8, 9, 10], 11)] [] (by kernel_rfl) (by kernel_rfl) ?_
            refine Veil.out ?_
            refine v_segs ?_
            simp only [opsOf, List.getElem?_toArray, List.getElem?_cons_succ, List.getElem?_cons_zero]
            repeat (refine v_step (fun K hK => ?_); go_simp; refine hK _ ?_; clear hK K)
            refine v_nil ?_
            refine v_seg rfl (fun K hK => ?_)
            go_simp
            refine HDO.out.mono ?_
            rintro e2 w3 ⟨v3, rfl, h3, hb3⟩
            have HV3 := Lib.hid (HVA.out.step ((Below.refl _ X).drew.trans hb3))
            have HS3 := Lib.hid h3
            refine hK _ _ ?_
            clear hK K hb3 HVA HQ HDO s0 s1 s2 s3 s4 hbx hcell
            obtain ⟨yg, yo, yc, rfl⟩ := h3.shape
            clear h3
            refine v_segs ?_
            simp only [opsOf, List.getElem?_toArray, List.getElem?_cons_succ, List.getElem?_cons_zero]
            repeat (refine v_step (fun K hK => ?_); go_simp; refine hK _ ?_; clear hK K)
            refine v_nil ?_
            refine v_seg rfl (fun K hK => ?_)
            go_simp
            refine hK _ _ ?_
            clear hK K
            refine v_tail ?_
            simp only [opsOf]
            have hylen : ((stepOf xs sk sI sE sV).getD xs).length ≤ 2147583648 := by
              cases h : stepOf xs sk sI sE sV with
              | none => have := HXL.out; simp only [Option.getD_none]; omega
              | some ys => have h1 := stepOf_len h HIS.out; have := HXL.out; simp only [Option.getD_some]; omega
            have hmake : Stp.make ⟨sk, f, sI, sE, sV⟩ vs = ((stepOf xs sk sI sE sV).getD xs, !(stepOf xs sk sI sE sV).isSome) := by
              have h1 := make_ok2 (s := ⟨sk, f, sI, sE, sV⟩) (vs := vs) (xs := xs) (Asked.ok HASK.out HM.out) (by simpa using HXS.out)
              rw [h1]
              simp only
              cases stepOf xs sk sI sE sV <;> rfl
            generalize (stepOf xs sk sI sE sV).getD xs = ys at hylen hmake HS3 ⊢
            generalize (stepOf xs sk sI sE sV).isSome = fine at hmake ⊢
            have HMK := Lib.hid hmake
            have hwT : IntKind.i64.wrap ((T : Int) + ys.length) = ((T + ys.length : Nat) : Int) := by have := HT.out; rw [IntKind.wrap_i64]; omega
            have HQ2 := Lib.hid (HQ.out.snoc HS.out HASK.out HVL.out)
            clear hmake HASK HIS HXS HXL hf hf'
            obtain ⟨T', hT'⟩ : ∃ T' : Nat, T' = T + ys.length := ⟨_, rfl⟩
            rw [← hT'] at hwT
            have HTT := Lib.hid hT'
            clear hT'
            by_cases hall : all < T'
            · have h2 : decide ((all : Int) < (T' : Int)) = true := by simp; omega
              go_wp2_with fail
              refine bodyPost_ret (results_tmp3 rfl _ _ _) rfl ?_
              exact ⟨_, _, false, rfl, HV3.out.below, nofun⟩
            · have h2 : decide ((all : Int) < (T' : Int)) = false := by simp; omega
              have HT' : Hid (T' ≤ 2147483647) := by show _ ≤ _; have := HA.out; omega
              have HYL : Hid (ys.length ≤ T') := by show _ ≤ _; have := HTT.out; omega
              have HTL : Hid (T ≤ T') := by show _ ≤ _; have := HTT.out; omega
              obtain ⟨us, hoL, hul, hall3⟩ := HV3.out.ownL
              have HOL := Lib.hid hoL
              have HUL := Lib.hid hul
              have HAL := Lib.hid hall3
              have HOP := Lib.hid HV3.out.ownP
              have HB3 := Lib.hid HV3.out.below
              clear hoL hul hall3 HV3 hylen
              go_wp2_with (at_builtin; refine wpList_append_own _ rfl (.tmp 76) (.tmp 78) 24 rfl w.heap.size 32 i32 (.slice none 0 0) 1 24 Try.underlying24 HI32.out.1 HI32.out.2.1 HI32.out.2.2.1 HI32.out.2.2.2 rfl (by decide) _ _ _ rfl (HOL.out.alloc _) ⟨w3.heap.size, 0, none⟩ 1 1 [.slice (some ⟨yg, yo, none⟩) ys.length yc] rfl rfl (new_cell _ _ _) (one_oneCell rfl) (by rw [HVL.out]; have := HL.out; unfold maxLen; omega) (by rw [HVL.out]; have := HL.out; omega) (by have := HB3.out.size; simp; omega) ?_)
              intro l4 w4 hown4 hgrow4 _
              have HO4 := Lib.hid hown4
              have HG4 := Lib.hid hgrow4
              have HP4 := Lib.hid ((HOP.out.alloc (.cells #[.slice (some ⟨yg, yo, none⟩) ys.length yc] 32)).kept hgrow4 (own_ne HOP.out HOL.out (by decide)))
              have HB4 := Lib.hid (below_grown (HB3.out.alloc HB3.out.size (.cells #[.slice (some ⟨yg, yo, none⟩) ys.length yc] 32)) HOL.out (Nat.le_refl _) (Nat.le_refl _) hgrow4)
              clear hown4 hgrow4
              go_wp2_with (at_builtin; refine wpList_append_own _ rfl (.tmp 80) (.tmp 83) 25 rfl w.heap.size 4 i4 (.bool false) 1 1 Try.underlying25 HI4.out.1 HI4.out.2.1 HI4.out.2.2.1 HI4.out.2.2.2 rfl (by decide) _ _ _ rfl (HP4.out.alloc _) ⟨w4.heap.size, 0, none⟩ 1 1 [.bool (!fine)] rfl rfl (new_cell _ _ _) (one_oneCell rfl) (by rw [HPL.out]; have := HL.out; unfold maxLen; omega) (by rw [HPL.out]; have := HL.out; omega) (by have := HB4.out.size; simp; omega) ?_)
              intro p5 w5 hown5 hgrow5 _
              have HV5 := Lib.hid (sv_push HB3.out HOP.out HOL.out HUL.out HAL.out HS3.out HYL.out HTL.out HO4.out HG4.out hown5 hgrow5 rfl rfl rfl (by simp))
              clear hown5 hgrow5
              go_wp2_with fail
              go_roundg (gk - 1)
              case measure => omega
              case rel =>
                refine ⟨j + 1, T', by omega, rfl, rfl, HT'.out, ?_, HQ2.out⟩
                have e1 : steps.take (j + 1) = steps.take j ++ [⟨sk, f, sI, sE, sV⟩] := by
                  rw [List.take_add_one, HS.out]; rfl
                rw [e1, versRun_snoc, ← HR.out]
                simp only [HMK.out]
                exact HV5.out
      · have h1 : decide ((j : Int) < (steps.length : Int)) = false := by simp; omega
        obtain rfl : j = steps.length := by omega
        have h := HV.out
        rw [List.take_length] at h
        have hq := HQ.out
        rw [List.take_length] at hq
        have HE := Lib.hid (And.intro h hq)
        clear h hq HV HQ
        go_wp2_with fail
        refine bodyPost_ret (results_tmp3 rfl _ _ _) rfl ?_
        exact ⟨_, _, _, rfl, HE.out.1.below, fun h => ⟨T, by simpa using h, HE.out.1, HE.out.2⟩⟩

theorem versions_w (u sv : Value) (xs0 : List Int) (steps : List Stp) (most all : Nat) (w : World) (hu : SlN w u (xs0.map (Value.int .i64))) (hs : StpV w sv steps) (hl : steps.length ≤ 1000) (h0 : xs0.length ≤ 2147483647) (hm : most ≤ 100000) (ha : all ≤ 1000000) :
    Calls Try.prog 20 #[u, sv, .int .i64 (most : Int), .int .i64 (all : Int)] w fun e w' => ∃ l p ok, e = .returned (.tuple #[l, p, .bool ok]) ∧ Below w.heap.size w w' ∧
      (ok = true → ∃ T, T ≤ all ∧ SV w (versRun steps ([xs0], [])).1 (versRun steps ([xs0], [])).2 l p T w') :=
  (versions_a u sv xs0 steps most all w hu hs hl h0 hm ha).mono fun _ _ ⟨l, p, ok, h1, h2, h3⟩ => ⟨l, p, ok, h1, h2, fun h => by obtain ⟨T, a, b, _⟩ := h3 h; exact ⟨T, a, b⟩⟩

end Go.Proofs.Ytnahipfdnadccaa
