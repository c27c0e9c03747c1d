/- An iterator over a sorted map: to a key. -/
import Derived.Test.YtefigjdebakccaaItP
namespace Go.Proofs.Ytefigjdebakccaa
open Go.RowKit

/-- the iterator while a key is sought -/
def RR (wr : World) (ib mb d : Nat) (v : Value) (W : World) : Prop := But (· = ib) wr W ∧ ∃ arr : Array Value, ItB W ib mb arr (d : Int) ∧ arr[1 + d * 2]? = some v
theorem RR.c {wr W : World} {ib mb d : Nat} {v : Value} (h : RR wr ib mb d v W) : W.cell? ⟨ib, 1 + d * 2, none⟩ = some v := by
  obtain ⟨-, arr, h1, h2⟩ := h
  exact cell_at h1.1 h2
theorem RR.m {wr W : World} {ib mb d : Nat} {v : Value} (h : RR wr ib mb d v W) : W.cell? ⟨ib, 0, none⟩ = some (.pointer (some ⟨mb, 0, none⟩)) := by
  obtain ⟨-, arr, h1, h2⟩ := h
  exact cell_at h1.1 h1.2.2.1
theorem srt_mid {lt : Int → Int → Bool} {all bef es aft : List (Int × Int)} (h : all = bef ++ es ++ aft) (hs : Srt lt all) : Srt lt es := by
  subst h
  exact List.Pairwise.sublist ((List.sublist_append_right bef es).trans (List.sublist_append_left _ aft)) hs

set_option maxRecDepth 100000 in
set_option maxHeartbeats 3200000 in
theorem seek_w (o : Nat) (cv : Value) (hc : CmpIs o cv) (key : Int) (w : World) (ib mb : Nat) (u0 u1 : Value) (hm : w.heap[mb]? = some (.cells #[u0, u1, cv] 122 (0, 0))) (arr : Array Value) (d r : Nat) (v : Value) (all bef es aft : List (Int × Int)) (hrd : r + d ≤ 31) (hi : ItB w ib mb arr (d : Int)) (hv : arr[1 + d * 2]? = some v) (hl : Low w arr d r v bef es aft) (ha : all = bef ++ es ++ aft) (hs : Srt (ltO o) all) (hp : at_ (ltO o) all key = bef.length + at_ (ltO o) es key) :
    Calls Try.prog 86 #[.pointer (some ⟨ib, 0, none⟩), .int .i64 key] w fun e w' => e = .returned (.tuple #[]) ∧ But (· = ib) w w' ∧ St w' ib mb all (pos all (at_ (ltO o) all key)) := by
  have HI := Lib.hid hi
  have HV := Lib.hid hv
  have HL := Lib.hid hl
  have HRD := Lib.hid hrd
  have HALL := Lib.hid ha
  have HS := Lib.hid hs
  have HM := Lib.hid hm
  have HC := Lib.hid hc
  obtain ⟨P, hP⟩ : ∃ P, P = at_ (ltO o) all key := ⟨_, rfl⟩
  rw [← hP] at hp ⊢
  have HP := Lib.hid hp
  clear hi hv hl hrd ha hs hm hP hp
  obtain ⟨cty, cvv, cfid, rfl, -, -⟩ := hc
  go_enter Try.func86, Try.ntmps86
  go_wp2_with fail
  go_loopg [] r (fun k wr => ∃ (d r : Nat) (v : Value) (bef es aft : List (Int × Int)) (arr : Array Value), k = r ∧ P = bef.length + at_ (ltO o) es key ∧ r + d ≤ 31 ∧ ItB wr ib mb arr (d : Int) ∧ arr[1 + d * 2]? = some v ∧ Low w arr d r v bef es aft ∧ all = bef ++ es ++ aft ∧ But (· = ib) w wr)
  case atStart => exact ⟨d, r, v, bef, es, aft, arr, rfl, HP.out, HRD.out, HI.out, HV.out, HL.out, HALL.out, But.refl _ _⟩
  case round =>
    obtain ⟨d, r, v, bef, es, aft, arr, hkr, hp, hrd, hi, hv, hl, hall, hb⟩ := hrel
    have hlk := hi.2.2.2.2
    have hd32 : d < 32 := by omega
    obtain ⟨x0, hx0⟩ := hlk d hd32
    have cd := cell_at hi.1 hi.2.2.2.1
    have cv := cell_at hi.1 hv
    have cx := cell_at hi.1 hx0
    have fx : wr.frozen? ⟨ib, 1 + d * 2 + 1, none⟩ = false := frozen_of_row _ _ _ _ _ hi.1
    have hd0 : (0 : Int) ≤ (d : Int) := by omega
    have hd1 : (d : Int) < 32 := by omega
    have HI2 := Lib.hid hi
    have HV2 := Lib.hid hv
    have HL2 := Lib.hid hl
    have HALL2 := Lib.hid hall
    have HB2 := Lib.hid hb
    have HRD2 := Lib.hid hrd
    have HP2 := Lib.hid hp
    have c0 := cell_at hi.1 hi.2.2.1
    have hmb := hb.at HM.out (ne133 HI.out.1 HM.out (by decide))
    have m2 := cell_at (j := 2) hmb rfl
    have HMW := Lib.hid hmb
    have HX0 := Lib.hid hx0
    clear hi hv hl hall hb hrd hp hmb hlk hx0
    go_upto_region 0 with (fail)
    refine region_tail 8 (by kernel_rfl) (by kernel_rfl) ?_
    simp only [List.take_succ_cons, List.take_zero, List.drop_succ_cons, List.drop_zero]
    repeat still_step
    refine wpStill_nil ?_
    rcases r with _ | r
    · obtain ⟨b, g, q, c, ar, rfl, h7, h9, h12, hpos, hle⟩ := LeafN.cells HL2.out.sn
      obtain ⟨d1, d2, d3⟩ := disp_l_idx b
      have HSE : Hid (Srt (ltO o) es) := srt_mid HALL2.out HS.out
      have H7 := Lib.hid h7
      obtain ⟨n, hn⟩ : ∃ n, n = at_ (ltO o) es key := ⟨_, rfl⟩
      have hnl : n ≤ es.length := by rw [hn]; exact at_le _ _
      have HIDX : Hid (∀ W, Below wr.heap.size wr W → Calls Try.prog 105 #[.pointer (some ⟨b, 0, none⟩), .int .i64 key, .iface cty cvv] W fun e w' => e = .returned (.int .i64 (n : Int)) ∧ Below W.heap.size W w') := fun W hW => by
        have hW2 : But (· = ib) w W := HB2.out.trans (But.of_below hW)
        rw [hn]
        exact leafIdx_w o _ HC.out key b g q c es HSE.out (by omega) W (cell_at (hW2.at h7 (ne133 HI.out.1 h7 (by decide))) rfl) fun i e hi => cell_at (hW2.at h9 (ne133 HI.out.1 h9 (by decide))) (h12 i e hi).1
      have hP : P = bef.length + n := by rw [hn]; exact HP2.out
      have HPN := Lib.hid hP
      clear h7 h9 h12 hn hP
      go_upto_region 1 with (fail)
      have HR0 : Hid (RR wr ib mb d (.iface 138 (.pointer (some ⟨b, 0, none⟩))) wr.drew.drew) := ⟨(But.refl _ _).drew.drew, arr, HI2.out, HV2.out⟩
      clear cd cv cx fx c0 m2
      refine region_segsR (fun W => RR wr ib mb d (.iface 138 (.pointer (some ⟨b, 0, none⟩))) W) [([0, 1, 2, 3, 4, 5, 6, 7, 8, 9, 10, 11, 12, 13, 14], [15]), ([16, 17], [18])] (by kernel_rfl) (by intro dst v c a w h; cases dst <;> exact h) (by kernel_rfl) HR0.out ?_
      refine r_segs ?_
      simp only [opsOf, List.getElem?_toArray, List.getElem?_cons_succ, List.getElem?_cons_zero]
      repeat (refine r_read ?_ (by kernel_rfl) ?_ (fun K hK => ?_); rotate_left 1; (intro W hR; have cv := hR.c; have c0 := hR.m; have m2 := cell_at (j := 2) (hR.1.at HMW.out (ne133 HI2.out.1 HMW.out (by decide))) rfl; clear hR; go_simp; try with_reducible rfl); go_simp; refine hK _ ?_; clear hK K)
      refine r_nil1 ?_
      refine r_op rfl (fun K hK => ?_)
      go_simp
      refine (HIDX.out _ (Below.refl _ _).drew.drew).mono ?_
      rintro e w2 ⟨rfl, hb2⟩
      have HB3 : Hid (But (· = ib) wr w2) := (But.refl (· = ib) wr).drew.drew.trans (But.of_below hb2)
      have HI3 : Hid (ItB w2 ib mb arr (d : Int)) := ⟨below_at hb2 HI2.out.1, HI2.out.2⟩
      clear hb2
      refine hK _ _ ⟨HB3.out, arr, HI3.out, HV2.out⟩ ?_
      clear hK K
      refine r_segs ?_
      simp only [opsOf, List.getElem?_toArray, List.getElem?_cons_succ, List.getElem?_cons_zero]
      repeat (refine r_read ?_ (by kernel_rfl) ?_ (fun K hK => ?_); rotate_left 1; (intro W hR; clear hR; go_simp; try with_reducible rfl); go_simp; refine hK _ ?_; clear hK K)
      refine r_nil1 ?_
      refine r_op rfl (fun K hK => ?_)
      have cx := cell_at HI3.out.1 HX0.out
      have fx : w2.frozen? ⟨ib, 1 + d * 2 + 1, none⟩ = false := frozen_of_row _ _ _ _ _ HI3.out.1
      go_simp
      have HIa : Hid (ItB (w2.setCell ⟨ib, 1 + d * 2 + 1, none⟩ (.int .i64 (n : Int))) ib mb (arr.setIfInBounds (1 + d * 2 + 1) (.int .i64 (n : Int))) (d : Int)) := HI3.out.setIdx hd32 (n : Int)
      have HBa : Hid (But (· = ib) w (w2.setCell ⟨ib, 1 + d * 2 + 1, none⟩ (.int .i64 (n : Int)))) := (HB2.out.trans HB3.out).setCell (.inl rfl) _
      have HVa : Hid ((arr.setIfInBounds (1 + d * 2 + 1) (.int .i64 (n : Int)))[1 + d * 2]? = some (.iface 138 (.pointer (some ⟨b, 0, none⟩)))) := by
        show (arr.setIfInBounds (1 + d * 2 + 1) (.int .i64 (n : Int)))[1 + d * 2]? = _
        rw [Array.getElem?_setIfInBounds_ne (by omega)]; exact HV2.out
      refine hK _ _ ⟨HB3.out.setCell (.inl rfl) _, _, HIa.out, HVa.out⟩ ?_
      clear hK K cx fx d1 d2 d3
      refine r_end ?_
      clear HR0 HIDX HB3 HI3
      generalize (w2.setCell ⟨ib, 1 + d * 2 + 1, none⟩ (.int .i64 (n : Int))) = X at HIa HBa ⊢
      clear w2
      obtain ⟨ar1, har1⟩ : ∃ ar1, ar1 = arr.setIfInBounds (1 + d * 2 + 1) (.int .i64 (n : Int)) := ⟨_, rfl⟩
      rw [← har1] at HIa HVa
      have HX1 : Hid (ar1[1 + d * 2 + 1]? = some (.int .i64 (n : Int))) := by
        show ar1[1 + d * 2 + 1]? = _
        rw [har1, Array.getElem?_setIfInBounds_self_of_lt (by have := HI2.out.2.1; omega)]
      have HL3 : Hid (Low w ar1 d 0 (.iface 138 (.pointer (some ⟨b, 0, none⟩))) bef es aft) := HL2.out.arr fun j hj => by rw [har1, Array.getElem?_setIfInBounds_ne (by omega)]
      clear har1
      have cv := cell_at HIa.out.1 HVa.out
      have cx := cell_at HIa.out.1 HX1.out
      have hbb := HBa.out.at H7.out (ne133 HI.out.1 H7.out (by decide))
      have hsl := cell_at (j := 0) hbb rfl
      have t1 := as138_147 b
      have t2 := as138_138 b
      clear hbb
      by_cases hlt : n = es.length
      · have h1 : ((n : Int) == (es.length : Int)) = true := by rw [hlt]; simp
        have HEQ := Lib.hid hlt
        clear hlt
        go_upto_region 9 with (fail)
        refine region_tail 9 (by kernel_rfl) (by kernel_rfl) ?_
        simp only [List.take_succ_cons, List.take_zero, List.drop_succ_cons, List.drop_zero]
        repeat still_step
        refine wpStill_nil ?_
        go_wp2_with fail
        refine (next_w X.drew ib mb ar1 d _ all bef es aft n P (by have := HRD2.out; omega) HIa.out HVa.out HX1.out (HL3.out.stay ((HBa.out.drew).stay133 HI.out.1)) hnl HALL2.out ?_).mono ?_
        · rw [if_neg (by have := HEQ.out; omega), HPN.out, HEQ.out]
        rintro e w' ⟨rfl, hb', hst⟩
        have HST : Hid (But (· = ib) w w' ∧ St w' ib mb all (pos all P)) := ⟨HBa.out.drew.trans hb', hst⟩
        clear hb' hst
        go_wp2_with fail
        refine bodyPost_ret (results_none rfl _ _ _) rfl ?_
        exact ⟨rfl, HST.out⟩
      · have h1 : ((n : Int) == (es.length : Int)) = false := by simp; omega
        have hlt2 : n < es.length := by omega
        have HLT := Lib.hid hlt2
        clear hlt hlt2
        go_upto_region 9 with (fail)
        refine region_tail 9 (by kernel_rfl) (by kernel_rfl) ?_
        simp only [List.take_succ_cons, List.take_zero, List.drop_succ_cons, List.drop_zero]
        repeat still_step
        refine wpStill_nil ?_
        go_wp2_with fail
        refine bodyPost_ret (results_none rfl _ _ _) rfl ?_
        refine ⟨rfl, HBa.out.drew, ar1, .inr ⟨d, _, bef, es, aft, n, by have := HRD2.out; omega, HIa.out, HVa.out, HX1.out, HL3.out.stay ((HBa.out.drew).stay133 HI.out.1), HLT.out, HALL2.out, ?_⟩⟩
        rw [HPN.out]
        exact pos_some (by rw [HALL2.out]; simp only [List.length_append]; have := HLT.out; omega)
    · have hsn := HL2.out.sn
      obtain ⟨kids, hB, hk, rfl⟩ := hsn
      have HBN := Lib.hid hB
      have HK := Lib.hid hk
      obtain ⟨b, sl, h71, h72, ⟨g, q, c, ar, rfl, h74, h75, h76⟩, h77, hle⟩ := hB
      subst h71
      obtain ⟨d1, d2, d3⟩ := disp_b_idx b
      have hse : Srt (ltO o) (ess kids).flatten := srt_mid HALL2.out HS.out
      have hK := Srt.kids hse hk
      have hne : ess kids ≠ [] := fun e => h77 (List.eq_nil_of_length_eq_zero (by rw [← ess_len, e]; rfl))
      obtain ⟨k1, -, -⟩ := kids_at (ord_ltO o) hK 0 key hne
      obtain ⟨n, hn⟩ : ∃ n, n = cut (ltO o) 0 (ess kids) key - 1 := ⟨_, rfl⟩
      rw [← hn] at k1
      have hnl : n < kids.length := by rw [ess_len] at k1; exact k1
      obtain ⟨kd, hkd⟩ : ∃ kd, kids[n]? = some kd := ⟨_, List.getElem?_eq_getElem hnl⟩
      have hat := at_kid (ord_ltO o) hK (d := 0) (k := key) (b := kd.2) (by rw [← hn]; exact ess_get hkd)
      rw [← hn] at hat
      have hm := (h76 n _ (krow_get hkd)).2
      obtain ⟨kt, kq, hkl⟩ := (hk kd (List.mem_of_getElem? hkd)).ptr
      have HKD := Lib.hid hkd
      have HKL := Lib.hid hkl
      have hm2 : ar[q + n * 2 + 1]? = some kd.1 := hm
      rw [hkl] at hm2
      have h72' := h72
      rw [krow_len] at h72'
      have HBK := Lib.hid (And.intro h72' (And.intro h74 hm2))
      have HIDX : Hid (∀ W, Below wr.heap.size wr W → Calls Try.prog 112 #[.pointer (some ⟨b, 0, none⟩), .int .i64 key, .iface cty cvv] W fun e w' => e = .returned (.int .i64 (n : Int)) ∧ Below W.heap.size W w') := fun W hW => by
        have hW2 : But (· = ib) w W := HB2.out.trans (But.of_below hW)
        rw [hn]
        refine brIdx_w o _ HC.out key b g q c (ess kids) hK (by rw [ess_len]; omega) W (cell_at (hW2.at h72 (ne133 HI.out.1 h72 (by decide))) (by rw [krow_len, ess_len]; rfl)) fun i e hi => ?_
        obtain ⟨kd2, hk2⟩ : ∃ kd, kids[i]? = some kd := ⟨_, List.getElem?_eq_getElem (show i < kids.length by rw [← ess_len]; exact (List.getElem?_eq_some_iff.1 hi).1)⟩
        rw [ess_get hk2] at hi
        cases hi
        exact cell_at (hW2.at h74 (ne133 HI.out.1 h74 (by decide))) (h76 i _ (krow_get hk2)).1
      have HPN : Hid (P = (bef ++ (ess (kids.take n)).flatten).length + at_ (ltO o) kd.2 key) := by
        show P = _
        rw [HP2.out, hat, List.length_append]
        unfold ess
        rw [List.map_take]
        omega
      clear h72 h72' h74 h75 h76 h77 hse hK hne k1 hn hat hm hm2 hkd hkl hk
      go_upto_region 1 with (fail)
      have HR0 : Hid (RR wr ib mb d (.iface 147 (.pointer (some ⟨b, 0, none⟩))) wr.drew.drew) := ⟨(But.refl _ _).drew.drew, arr, HI2.out, HV2.out⟩
      clear cd cv cx fx c0 m2
      refine region_segsR (fun W => RR wr ib mb d (.iface 147 (.pointer (some ⟨b, 0, none⟩))) W) [([0, 1, 2, 3, 4, 5, 6, 7, 8, 9, 10, 11, 12, 13, 14], [15]), ([16, 17], [18])] (by kernel_rfl) (by intro dst v c a w h; cases dst <;> exact h) (by kernel_rfl) HR0.out ?_
      refine r_segs ?_
      simp only [opsOf, List.getElem?_toArray, List.getElem?_cons_succ, List.getElem?_cons_zero]
      repeat (refine r_read ?_ (by kernel_rfl) ?_ (fun K hK => ?_); rotate_left 1; (intro W hR; have cv := hR.c; have c0 := hR.m; have m2 := cell_at (j := 2) (hR.1.at HMW.out (ne133 HI2.out.1 HMW.out (by decide))) rfl; clear hR; go_simp; try with_reducible rfl); go_simp; refine hK _ ?_; clear hK K)
      refine r_nil1 ?_
      refine r_op rfl (fun K hK => ?_)
      go_simp
      refine (HIDX.out _ (Below.refl _ _).drew.drew).mono ?_
      rintro e w2 ⟨rfl, hb2⟩
      have HB3 : Hid (But (· = ib) wr w2) := (But.refl (· = ib) wr).drew.drew.trans (But.of_below hb2)
      have HI3 : Hid (ItB w2 ib mb arr (d : Int)) := ⟨below_at hb2 HI2.out.1, HI2.out.2⟩
      clear hb2
      refine hK _ _ ⟨HB3.out, arr, HI3.out, HV2.out⟩ ?_
      clear hK K
      refine r_segs ?_
      simp only [opsOf, List.getElem?_toArray, List.getElem?_cons_succ, List.getElem?_cons_zero]
      repeat (refine r_read ?_ (by kernel_rfl) ?_ (fun K hK => ?_); rotate_left 1; (intro W hR; clear hR; go_simp; try with_reducible rfl); go_simp; refine hK _ ?_; clear hK K)
      refine r_nil1 ?_
      refine r_op rfl (fun K hK => ?_)
      have cx := cell_at HI3.out.1 HX0.out
      have fx : w2.frozen? ⟨ib, 1 + d * 2 + 1, none⟩ = false := frozen_of_row _ _ _ _ _ HI3.out.1
      go_simp
      have HIa : Hid (ItB (w2.setCell ⟨ib, 1 + d * 2 + 1, none⟩ (.int .i64 (n : Int))) ib mb (arr.setIfInBounds (1 + d * 2 + 1) (.int .i64 (n : Int))) (d : Int)) := HI3.out.setIdx hd32 (n : Int)
      have HBa : Hid (But (· = ib) w (w2.setCell ⟨ib, 1 + d * 2 + 1, none⟩ (.int .i64 (n : Int)))) := (HB2.out.trans HB3.out).setCell (.inl rfl) _
      have HVa : Hid ((arr.setIfInBounds (1 + d * 2 + 1) (.int .i64 (n : Int)))[1 + d * 2]? = some (.iface 147 (.pointer (some ⟨b, 0, none⟩)))) := by
        show (arr.setIfInBounds (1 + d * 2 + 1) (.int .i64 (n : Int)))[1 + d * 2]? = _
        rw [Array.getElem?_setIfInBounds_ne (by omega)]; exact HV2.out
      refine hK _ _ ⟨HB3.out.setCell (.inl rfl) _, _, HIa.out, HVa.out⟩ ?_
      clear hK K cx fx d1 d2 d3
      refine r_end ?_
      clear HR0 HIDX HB3 HI3
      generalize (w2.setCell ⟨ib, 1 + d * 2 + 1, none⟩ (.int .i64 (n : Int))) = X at HIa HBa ⊢
      clear w2
      obtain ⟨ar1, har1⟩ : ∃ ar1, ar1 = arr.setIfInBounds (1 + d * 2 + 1) (.int .i64 (n : Int)) := ⟨_, rfl⟩
      rw [← har1] at HIa HVa
      have HA1 := Lib.hid har1
      have ci := cell_at (j := 1 + d * 2 + 1) (v := .int .i64 (n : Int)) HIa.out.1 (by rw [har1, Array.getElem?_setIfInBounds_self_of_lt (by have := HI2.out.2.1; omega)])
      clear har1
      have hbb := HBa.out.at HBK.out.1 (ne133 HI.out.1 HBK.out.1 (by decide))
      have hbn := HBa.out.at HBK.out.2.1 (ne133 HI.out.1 HBK.out.2.1 (by decide))
      have hc1 := cell_at (j := 0) hbb rfl
      have hn0 := cell_at hbn HBK.out.2.2
      have cd := cell_at HIa.out.1 HIa.out.2.2.2.1
      have cv := cell_at HIa.out.1 HVa.out
      have hd2 : d + 1 < 32 := by have := HRD2.out; omega
      obtain ⟨un, hun⟩ : ∃ u, ar1[1 + (d + 1) * 2]? = some u := ⟨_, Array.getElem?_eq_getElem (by have := HIa.out.2.1; omega)⟩
      obtain ⟨xn, hxn⟩ := HIa.out.2.2.2.2 (d + 1) hd2
      have cn := cell_at HIa.out.1 hun
      have cm := cell_at HIa.out.1 hxn
      have fn : X.frozen? ⟨ib, 1 + (d + 1) * 2, none⟩ = false := frozen_of_row _ _ _ _ _ HIa.out.1
      have fm : X.frozen? ⟨ib, 1 + (d + 1) * 2 + 1, none⟩ = false := frozen_of_row _ _ _ _ _ HIa.out.1
      have hd3 : (d : Int) + 1 < 32 := by omega
      have hd4 : (0 : Int) ≤ (d : Int) + 1 := by omega
      have hdt : ((d : Int) + 1).toNat = d + 1 := by omega
      have hw : IntKind.i64.wrap ((d : Int) + 1) = (d : Int) + 1 := by rw [IntKind.wrap_i64]; omega
      have hpos' : (n : Int) < (kids.length : Int) := by omega
      have hpos0 : (0 : Int) ≤ (n : Int) := by omega
      have t1 := as147_147 b
      clear hbb hbn hun hxn
      go_upto_region 5 with (fail)
      refine region_tail 21 (by kernel_rfl) (by kernel_rfl) ?_
      simp only [List.take_succ_cons, List.take_zero, List.drop_succ_cons, List.drop_zero]
      repeat still_step
      refine wpStill_nil ?_
      go_upto_region 6 with (fail)
      have HIb : Hid (ItB (((X.setCell ⟨ib, 1 + (d + 1) * 2, none⟩ (.iface kt (.pointer (some ⟨kq, 0, none⟩)))).setCell ⟨ib, 1 + (d + 1) * 2 + 1, none⟩ (.int .i64 0)).drew) ib mb ((ar1.setIfInBounds (1 + (d + 1) * 2) (.iface kt (.pointer (some ⟨kq, 0, none⟩)))).setIfInBounds (1 + (d + 1) * 2 + 1) (.int .i64 0)) (d : Int)) := (HIa.out.setNode hd2 (.iface kt (.pointer (some ⟨kq, 0, none⟩)))).setIdx hd2 0
      have HBb : Hid (But (· = ib) w (((X.setCell ⟨ib, 1 + (d + 1) * 2, none⟩ (.iface kt (.pointer (some ⟨kq, 0, none⟩)))).setCell ⟨ib, 1 + (d + 1) * 2 + 1, none⟩ (.int .i64 0)).drew)) := ((HBa.out.setCell (.inl rfl) _).setCell (.inl rfl) _).drew
      clear cd cn cm fn fm hc1 hn0 ci cv
      generalize (((X.setCell ⟨ib, 1 + (d + 1) * 2, none⟩ (.iface kt (.pointer (some ⟨kq, 0, none⟩)))).setCell ⟨ib, 1 + (d + 1) * 2 + 1, none⟩ (.int .i64 0)).drew) = Y at HIb HBb ⊢
      have cd := cell_at HIb.out.1 HIb.out.2.2.2.1
      have fd : Y.frozen? ⟨ib, 65, none⟩ = false := frozen_of_row _ _ _ _ _ HIb.out.1
      go_wp2_with fail
      go_roundg r
      case measure => omega
      case rel =>
        obtain ⟨g1, g2⟩ := down_rel (x := n) HI2.out.2.1 hd2 HA1.out rfl HV2.out HL2.out HBN.out HK.out HKD.out (u := .int .i64 0) (z := (d : Int) + 1)
        rw [HKL.out] at g1
        refine ⟨d + 1, r, kd.1, bef ++ (ess (kids.take n)).flatten, kd.2, (ess (kids.drop (n + 1))).flatten ++ aft, _, rfl, HPN.out, by have := HRD2.out; omega, HIb.out.setDep ((d : Int) + 1), ?_, ?_, ?_, HBb.out.setCell (.inl rfl) _⟩
        · rw [HKL.out]; exact g1
        · rw [HKL.out] at g2; rw [HKL.out]; exact g2
        · rw [HALL2.out, kid_split HKD.out]
          simp only [List.append_assoc]
end Go.Proofs.Ytefigjdebakccaa
