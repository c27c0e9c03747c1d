/- The walk over the law FnListSlices. Conditions of this file: none. -/
import Derived.Test.YtnahipfdnadccaaCap
import Derived.Test.YtnahipfdnadccaaSlices
import Derived.Test.YtnahipfdnadccaaVeil
import Derived.Deep.DeepCutAuto
namespace Go.Proofs.Ytnahipfdnadccaa
open Go.RowKit

def sliS (n low high i o s t : Nat) : List Stp := [⟨4, 0, n, 0, 7⟩, ⟨3, 1, low, high, 0⟩, ⟨3, 2, i, o, 0⟩, ⟨3, 1, s, t, 0⟩, ⟨3, 1, 0, n, 0⟩, ⟨3, 1, low, low, 0⟩]
theorem sliS_run (n low high i o s t k : Nat) (hn : n ≤ 2000) (h1 : low ≤ high) (h2 : high ≤ n) (h3 : i ≤ o) (h4 : o ≤ k) (hk : k = high - low) (hs : s = low + i) (ht : t = low + o) :
    versRun (sliS n low high i o s t) ([[]], []) = ([[], up n 7, ((up n 7).drop low).take (high - low), ((up n 7).drop s).take (t - s), ((up n 7).drop s).take (t - s), up n 7, []], [false, false, false, false, false, false]) := by
  subst hk
  subst hs
  subst ht
  have e : low + o - (low + i) = o - i := by omega
  rw [e]
  exact sliRun n low high i o hn h1 h2 h3 h4

theorem ints_cut {xs : List Int} {lo m : Nat} : (((xs.map (Value.int .i64)).drop lo).take m) = ((xs.drop lo).take m).map (Value.int .i64) := by
  rw [List.map_take, List.map_drop]

set_option maxRecDepth 100000 in
set_option maxHeartbeats 4000000 in
theorem slices_w (c a b e d : Int) (w : World) (hc : 0 ≤ c ∧ c ≤ 65535) (ha : 0 ≤ a ∧ a ≤ 65535) (hb : 0 ≤ b ∧ b ≤ 65535) (he : 0 ≤ e ∧ e ≤ 65535) (hd : 0 ≤ d ∧ d ≤ 65535) (hG : Glob w) :
    Calls Try.prog 4 #[.int .u16 c, .int .u16 a, .int .u16 b, .int .u16 e, .int .u16 d] w fun e w' => e = .returned (.bool true) ∧ Below w.heap.size w w' := by
  obtain ⟨n, hn⟩ : ∃ n : Nat, c.tmod 2001 = n := ⟨(c.tmod 2001).toNat, by have := Int.tmod_nonneg 2001 hc.1; omega⟩
  have hn2 : n ≤ 2000 := by have := Int.tmod_lt_of_pos c (b := 2001) (by omega); omega
  have hwc : IntKind.i64.wrap c = c := by rw [IntKind.wrap_i64]; omega
  have hwa : IntKind.i64.wrap a = a := by rw [IntKind.wrap_i64]; omega
  have hwb : IntKind.i64.wrap b = b := by rw [IntKind.wrap_i64]; omega
  have hwe : IntKind.i64.wrap e = e := by rw [IntKind.wrap_i64]; omega
  have hwd : IntKind.i64.wrap d = d := by rw [IntKind.wrap_i64]; omega
  have hw1 : IntKind.i64.wrap ((n : Int) + 1) = (n : Int) + 1 := by rw [IntKind.wrap_i64]; omega
  have hz1 : ¬ ((n : Int) + 1 = 0) := by omega
  obtain ⟨x, hx⟩ : ∃ x : Nat, a.tmod ((n : Int) + 1) = x := ⟨(a.tmod ((n : Int) + 1)).toNat, by have := Int.tmod_nonneg ((n : Int) + 1) ha.1; omega⟩
  obtain ⟨y, hy⟩ : ∃ y : Nat, b.tmod ((n : Int) + 1) = y := ⟨(b.tmod ((n : Int) + 1)).toNat, by have := Int.tmod_nonneg ((n : Int) + 1) hb.1; omega⟩
  have hxn : x ≤ n := by have := Int.tmod_lt_of_pos a (b := (n : Int) + 1) (by omega); omega
  have hyn : y ≤ n := by have := Int.tmod_lt_of_pos b (b := (n : Int) + 1) (by omega); omega
  have HG := Lib.hid hG
  clear hG
  go_enter Try.func4, Try.ntmps4
  go_upto_region 2 with (fail)
  refine region_still (by kernel_rfl) (by kernel_rfl) ?_
  repeat still_step
  refine wpStill_nil ?_
  go_upto_region 3 with (fail)
  go_cut [12, 13] from 32 to 37 (fun v12 v13 wc => ∃ low high : Nat, v12 = .int .i64 (low : Int) ∧ v13 = .int .i64 (high : Int) ∧ low ≤ high ∧ high ≤ n ∧ wc = w.drew)
  case first =>
    rcases Nat.lt_trichotomy y x with h | h | h
    · have h1 : (y : Int) < (x : Int) := by omega
      have h2 : ¬ (x : Int) < (y : Int) := by omega
      go_wp2_with fail
      go_meet
      case rel => exact ⟨y, x, by simp, by simp <;> omega, by omega, hxn, rfl⟩
    · subst h
      go_wp2_with fail
      go_meet
      case rel => exact ⟨y, y, by simp, by simp, by omega, hxn, rfl⟩
    · have h1 : (x : Int) < (y : Int) := by omega
      have h2 : ¬ (y : Int) < (x : Int) := by omega
      go_wp2_with fail
      go_meet
      case rel => exact ⟨x, y, by simp <;> omega, by simp <;> omega, by omega, hyn, rfl⟩
  case rest =>
    obtain ⟨low, high, rfl, rfl, h1, h2, rfl⟩ := hcut
    obtain ⟨k, hk⟩ : ∃ k : Nat, k = high - low := ⟨_, rfl⟩
    have hwk : IntKind.i64.wrap ((high : Int) - low) = (k : Int) := by rw [IntKind.wrap_i64]; omega
    have hwk1 : IntKind.i64.wrap ((k : Int) + 1) = (k : Int) + 1 := by rw [IntKind.wrap_i64]; omega
    have hzk : ¬ ((k : Int) + 1 = 0) := by omega
    obtain ⟨p, hp⟩ : ∃ x : Nat, e.tmod ((k : Int) + 1) = x := ⟨(e.tmod ((k : Int) + 1)).toNat, by have := Int.tmod_nonneg ((k : Int) + 1) he.1; omega⟩
    obtain ⟨q, hq⟩ : ∃ y : Nat, d.tmod ((k : Int) + 1) = y := ⟨(d.tmod ((k : Int) + 1)).toNat, by have := Int.tmod_nonneg ((k : Int) + 1) hd.1; omega⟩
    have hpk : p ≤ k := by have := Int.tmod_lt_of_pos e (b := (k : Int) + 1) (by omega); omega
    have hqk : q ≤ k := by have := Int.tmod_lt_of_pos d (b := (k : Int) + 1) (by omega); omega
    have HK := Lib.hid hk
    clear hk
    go_upto_region 5 with (fail)
    refine region_still (by kernel_rfl) (by kernel_rfl) ?_
    repeat still_step
    refine wpStill_nil ?_
    go_upto_region 6 with (fail)
    go_cut [15, 16] from 51 to 56 (fun v15 v16 wc => ∃ i o : Nat, v15 = .int .i64 (i : Int) ∧ v16 = .int .i64 (o : Int) ∧ i ≤ o ∧ o ≤ k ∧ wc = w.drew.drew)
    case first =>
      rcases Nat.lt_trichotomy q p with h | h | h
      · have h1 : (q : Int) < (p : Int) := by omega
        have h2 : ¬ (p : Int) < (q : Int) := by omega
        go_wp2_with fail
        go_meet
        case rel => exact ⟨q, p, by simp, by simp <;> omega, by omega, hpk, rfl⟩
      · subst h
        go_wp2_with fail
        go_meet
        case rel => exact ⟨q, q, by simp, by simp, by omega, hpk, rfl⟩
      · have h1 : (p : Int) < (q : Int) := by omega
        have h2 : ¬ (q : Int) < (p : Int) := by omega
        go_wp2_with fail
        go_meet
        case rel => exact ⟨p, q, by simp <;> omega, by simp <;> omega, by omega, hqk, rfl⟩
    case rest =>
      obtain ⟨i, o, rfl, rfl, h3, h4, rfl⟩ := hcut
      clear hn hwc hwa hwb hwe hwd hw1 hz1 hx hy hwk hwk1 hzk hp hq
      obtain ⟨s, hs⟩ : ∃ s : Nat, s = low + i := ⟨_, rfl⟩
      obtain ⟨t, ht⟩ : ∃ t : Nat, t = low + o := ⟨_, rfl⟩
      have hws : IntKind.i64.wrap ((low : Int) + i) = (s : Int) := by rw [IntKind.wrap_i64]; have := HK.out; omega
      have hwt : IntKind.i64.wrap ((low : Int) + o) = (t : Int) := by rw [IntKind.wrap_i64]; have := HK.out; omega
      have HS := Lib.hid hs
      have HT := Lib.hid ht
      clear hs ht
      generalize hW0 : w.drew.drew = W
      have HGW : Hid (Glob W) := by rw [← hW0]; exact HG.out.stay (fun _ _ _ h _ => h)
      have HBW : Hid (Below w.heap.size w W) := by rw [← hW0]; exact (Below.refl _ w).drew.drew
      clear hW0 HG
      go_wp2_with fail
      have hb1 : Below W.heap.size W (W.alloc (.cells ((sliS n low high i o s t).flatMap Stp.cells).toArray 29)) := (Below.refl _ _).alloc (Nat.le_refl _) _
      have hst := heap_alloc_last W (.cells ((sliS n low high i o s t).flatMap Stp.cells).toArray 29)
      have hrun := listRun_c _ (.slice none 0 0) 0 [] (sliS n low high i o s t) W.heap.size 0 6 (lt_of_block hst) (steps_at hst) (new0 _) (show 0 + 100000 * (6 + 1) < 33554431 by decide) (HGW.out.stay (Stay.of_below hb1))
      rw [sliS_run n low high i o s t k hn2 h1 h2 h3 h4 HK.out HS.out HT.out] at hrun
      have HRUN := Lib.hid hrun
      have HB1 := Lib.hid (HBW.out.trans (hb1.mono HBW.out.size))
      clear hb1 hst hrun HBW
      change Calls Try.prog 15 _ (W.alloc (.cells ((sliS n low high i o s t).flatMap Stp.cells).toArray 29)) _
      refine HRUN.out.mono ?_
      rintro e2 w2 ⟨l, p', rfl, hb, ⟨g, cap, rfl, ho⟩, ⟨pa, pc, rfl, hp⟩⟩
      have HB2 := Lib.hid (HB1.out.trans (hb.mono HB1.out.size))
      have HG2 : Hid (Glob w2) := HGW.out.stay ((Stay.of_below ((Below.refl _ W).alloc (Nat.le_refl _) _)).trans (Stay.of_below hb))
      clear HB1 HRUN hb hp HGW
      have hlU := up_length n 7
      have hlA : (((up n 7).drop low).take (high - low)).length = high - low := by simp [hlU]; omega
      have hlB : (((up n 7).drop s).take (t - s)).length = t - s := by have := HS.out; have := HT.out; have := HK.out; simp [hlU]; omega
      obtain ⟨a1, c1, hc1, hs1, hr1⟩ := ho 1 (up n 7) rfl
      obtain ⟨a2, c2, hc2, hs2, -⟩ := ho 2 (((up n 7).drop low).take (high - low)) rfl
      obtain ⟨a3, c3, hc3, hs3, -⟩ := ho 3 (((up n 7).drop s).take (t - s)) rfl
      obtain ⟨a4, c4, hc4, hs4, -⟩ := ho 4 (((up n 7).drop s).take (t - s)) rfl
      obtain ⟨a5, c5, hc5, hs5, -⟩ := ho 5 (up n 7) rfl
      obtain ⟨a6, c6, hc6, hs6, -⟩ := ho 6 [] rfl
      rw [List.length_nil] at hc6
      obtain ⟨a7, c7, hrun7, hs7⟩ := cut_at hs1 (by simpa using hr1) h1 (by simp [hlU]; omega)
      obtain ⟨a8, c8, hrun8, hs8⟩ := cut_at (lo := s) (hi := t) hs1 (by simpa using hr1) (by have := HS.out; have := HT.out; omega) (by have := HS.out; have := HT.out; have := HK.out; simp [hlU]; omega)
      rw [ints_cut] at hs7 hs8
      generalize ((up n 7).drop low).take (high - low) = A at hlA hc2 hs2 hs7
      generalize ((up n 7).drop s).take (t - s) = B at hlB hc3 hs3 hc4 hs4 hs8
      generalize up n 7 = U at hlU hc1 hs1 hr1 hc5 hs5 hrun7 hrun8
      rw [hlU] at hc1 hs1 hc5 hs5 hrun7 hrun8
      rw [hlA] at hc2 hs2
      rw [hlB] at hc3 hs3 hc4 hs4
      have HDA : Hid (decide (A = A) = true) := decide_eq_true rfl
      have HDB : Hid (decide (B = B) = true) := decide_eq_true rfl
      have HDU : Hid (decide (U = U) = true) := decide_eq_true rfl
      have HLA : Hid (A.length ≤ 2000) := by show _ ≤ _; omega
      have HLB : Hid (B.length ≤ 2000) := by show _ ≤ _; have := HS.out; have := HT.out; have := HK.out; omega
      have HLU : Hid (U.length ≤ 2000) := by show _ ≤ _; omega
      have HV1 := Lib.hid hs1
      have HV2 := Lib.hid hs2
      have HV3 := Lib.hid hs3
      have HV4 := Lib.hid hs4
      have HV5 := Lib.hid hs5
      have HV6 := Lib.hid hs6
      have HV7 := Lib.hid hs7
      have HV8 := Lib.hid hs8
      have HC1 := Lib.hid hc1
      have HC2 := Lib.hid hc2
      have HC3 := Lib.hid hc3
      have HC4 := Lib.hid hc4
      have HC5 := Lib.hid hc5
      have HC6 := Lib.hid hc6
      have HR7 := Lib.hid hrun7
      have HR8 := Lib.hid hrun8
      clear hs1 hs2 hs3 hs4 hs5 hs6 hs7 hs8 hr1 hlU hlA hlB ho hc ha hb he hd hn2 hxn hyn hpk hqk h1 h2 h3 h4 HS HT HK hrun7 hrun8 hc2 hc3 hc4 hc5 hc6
      simp only [List.length_cons, List.length_nil, Nat.zero_add, Nat.reduceAdd]
      have hnn : ((n : Int) != (n : Int)) = false := by simp
      go_upto_region 10 with (fail)
      have hrun7 := HR7.out
      have hrun8 := HR8.out
      clear hc1 hnn
      have hc1 := HC1.out
      have hc2 := HC2.out
      have hc3 := HC3.out
      have hc4 := HC4.out
      have hc5 := HC5.out
      have hc6 := HC6.out
      have HW : Hid (Same w2 w2.drew) := (Same.refl w2).drew
      refine region_segs [([0, 1, 2, 3, 4, 5, 6, 7, 8], 9), ([10, 11, 12, 13, 14, 15, 16, 17, 18, 19, 20, 21, 22, 23], 24), ([25, 26, 27, 28, 29, 30, 31, 32], 33), ([34, 35, 36, 37, 38, 39, 40, 41], 42), ([43, 44, 45, 46, 47, 48, 49, 50, 51], 52)] [53, 54] (by kernel_rfl) (by kernel_rfl) ?_
      refine Veil.out ?_
      refine v_segs ?_
      simp only [opsOf, List.getElem?_toArray, List.getElem?_cons_succ, List.getElem?_cons_zero]
      repeat (refine v_step (fun K hK => ?_); go_simp; refine hK _ ?_; clear hK K)
      refine v_nil ?_
      refine v_seg rfl (fun K hK => ?_)
      go_simp
      refine (equal_ints (xs := A) (ys := A) (HV2.out.same HW.out) (HV7.out.same HW.out) (by have := HLA.out; omega)).mono ?_
      rintro e1 w3 ⟨rfl, hs⟩
      replace HW := Lib.hid (HW.out.trans hs)
      clear hs
      rw [HDA.out]
      refine hK _ _ ?_
      clear hK K
      clear hc1 hc2 hc3 hc4 hc5 hc6
      have hc1 := HW.out.cell HC1.out
      have hc2 := HW.out.cell HC2.out
      have hc3 := HW.out.cell HC3.out
      have hc4 := HW.out.cell HC4.out
      have hc5 := HW.out.cell HC5.out
      have hc6 := HW.out.cell HC6.out
      refine v_segs ?_
      simp only [opsOf, List.getElem?_toArray, List.getElem?_cons_succ, List.getElem?_cons_zero]
      repeat (refine v_step (fun K hK => ?_); go_simp; refine hK _ ?_; clear hK K)
      refine v_nil ?_
      refine v_seg rfl (fun K hK => ?_)
      go_simp
      refine (equal_ints (xs := B) (ys := B) (HV3.out.same HW.out) (HV8.out.same HW.out) (by have := HLB.out; omega)).mono ?_
      rintro e1 w4 ⟨rfl, hs⟩
      replace HW := Lib.hid (HW.out.trans hs)
      clear hs
      rw [HDB.out]
      refine hK _ _ ?_
      clear hK K
      clear hc1 hc2 hc3 hc4 hc5 hc6
      have hc1 := HW.out.cell HC1.out
      have hc2 := HW.out.cell HC2.out
      have hc3 := HW.out.cell HC3.out
      have hc4 := HW.out.cell HC4.out
      have hc5 := HW.out.cell HC5.out
      have hc6 := HW.out.cell HC6.out
      refine v_segs ?_
      simp only [opsOf, List.getElem?_toArray, List.getElem?_cons_succ, List.getElem?_cons_zero]
      repeat (refine v_step (fun K hK => ?_); go_simp; refine hK _ ?_; clear hK K)
      refine v_nil ?_
      refine v_seg rfl (fun K hK => ?_)
      go_simp
      refine (equal_ints (xs := B) (ys := B) (HV3.out.same HW.out) (HV4.out.same HW.out) (by have := HLB.out; omega)).mono ?_
      rintro e1 w5 ⟨rfl, hs⟩
      replace HW := Lib.hid (HW.out.trans hs)
      clear hs
      rw [HDB.out]
      refine hK _ _ ?_
      clear hK K
      clear hc1 hc2 hc3 hc4 hc5 hc6
      have hc1 := HW.out.cell HC1.out
      have hc2 := HW.out.cell HC2.out
      have hc3 := HW.out.cell HC3.out
      have hc4 := HW.out.cell HC4.out
      have hc5 := HW.out.cell HC5.out
      have hc6 := HW.out.cell HC6.out
      refine v_segs ?_
      simp only [opsOf, List.getElem?_toArray, List.getElem?_cons_succ, List.getElem?_cons_zero]
      repeat (refine v_step (fun K hK => ?_); go_simp; refine hK _ ?_; clear hK K)
      refine v_nil ?_
      refine v_seg rfl (fun K hK => ?_)
      go_simp
      refine (equal_ints (xs := U) (ys := U) (HV5.out.same HW.out) (HV1.out.same HW.out) (by have := HLU.out; omega)).mono ?_
      rintro e1 w6 ⟨rfl, hs⟩
      replace HW := Lib.hid (HW.out.trans hs)
      clear hs
      rw [HDU.out]
      refine hK _ _ ?_
      clear hK K
      clear hc1 hc2 hc3 hc4 hc5 hc6
      have hc1 := HW.out.cell HC1.out
      have hc2 := HW.out.cell HC2.out
      have hc3 := HW.out.cell HC3.out
      have hc4 := HW.out.cell HC4.out
      have hc5 := HW.out.cell HC5.out
      have hc6 := HW.out.cell HC6.out
      refine v_segs ?_
      simp only [opsOf, List.getElem?_toArray, List.getElem?_cons_succ, List.getElem?_cons_zero]
      repeat (refine v_step (fun K hK => ?_); go_simp; refine hK _ ?_; clear hK K)
      refine v_nil ?_
      refine v_seg rfl (fun K hK => ?_)
      go_simp
      refine (awake _ (HG2.out.stay (Stay.of_below (HW.out.below _)))).mono ?_
      rintro e3 w7 ⟨rfl, hb5⟩
      have HB5 := Lib.hid ((HB2.out.trans (HW.out.below _)).trans (hb5.mono (HB2.out.trans (HW.out.below _)).size))
      clear hb5
      refine hK _ _ ?_
      clear hK K
      refine v_tail ?_
      simp only [opsOf, List.getElem?_toArray, List.getElem?_cons_succ, List.getElem?_cons_zero]
      go_wp2_with fail
      go_ret
      exact ⟨rfl, HB5.out⟩

end Go.Proofs.Ytnahipfdnadccaa
