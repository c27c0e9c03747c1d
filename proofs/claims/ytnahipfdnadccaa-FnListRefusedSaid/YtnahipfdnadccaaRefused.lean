/- The walk over the law FnListRefused. Conditions of this file: none. -/
import Derived.Test.YtnahipfdnadccaaAwake
import Derived.Test.YtnahipfdnadccaaVeil
namespace Go.Proofs.Ytnahipfdnadccaa
open Go.RowKit

def refSteps (n : Nat) (a b : Int) : List Stp := [⟨4, 0, n, 0, 0⟩, ⟨2, 1, a, 0, -1⟩, ⟨3, 1, a, b, 0⟩]
def refSet (n : Nat) (a : Int) : Bool := decide (a < 0) || decide ((n : Int) ≤ a)
def refCut (n : Nat) (a b : Int) : Bool := decide (a < 0) || decide (b < a) || decide ((n : Int) < b)

theorem up_len (n : Nat) (V : Int) : (up n V).length = n := by simp [up]

theorem make_ok {s : Stp} {vs : List (List Int)} {xs : List Int} (h : s.ok vs.length = true) (hx : vs[s.F.toNat]? = some xs) :
    s.make vs = match stepOf xs s.k s.I s.E s.V with | some ys => (ys, false) | none => (xs, true) := by
  unfold Stp.make
  rw [if_pos h]
  have : vs.getD s.F.toNat [] = xs := by simp [List.getD, hx]
  rw [this]
  cases stepOf xs s.k s.I s.E s.V <;> rfl

theorem refRun (n : Nat) (a b : Int) (hn : n ≤ 100000) : ∃ x y, versRun (refSteps n a b) ([[]], []) = ([[], up n 0, x, y], [false, refSet n a, refCut n a b]) ∧ (refSet n a = true → x = up n 0) ∧ (refCut n a b = true → y = up n 0) := by
  have h1 : Stp.make ⟨4, 0, n, 0, 0⟩ [[]] = (up n 0, false) := by
    rw [make_ok (xs := []) (by simp [Stp.ok]; omega) rfl]
    rfl
  have h2 : Stp.make ⟨2, 1, a, 0, -1⟩ [[], up n 0] = (if refSet n a then up n 0 else (up n 0).set a.toNat (-1), refSet n a) := by
    rw [make_ok (xs := up n 0) (by simp [Stp.ok]) rfl]
    by_cases h : 0 ≤ a ∧ a < (n : Int)
    · have h' : refSet n a = false := by simp [refSet]; omega
      have e : stepOf (up n 0) 2 a 0 (-1) = some ((up n 0).set a.toNat (-1)) := by
        unfold stepOf
        rw [if_neg (by decide), if_neg (by decide), if_pos rfl, if_pos (by rw [up_len]; exact h)]
      rw [h', e]
      rfl
    · have h' : refSet n a = true := by simp [refSet]; omega
      have e : stepOf (up n 0) 2 a 0 (-1) = none := by
        unfold stepOf
        rw [if_neg (by decide), if_neg (by decide), if_pos rfl, if_neg (by rw [up_len]; exact h)]
      rw [h', e]
      rfl
  have h3 : ∀ x, Stp.make ⟨3, 1, a, b, 0⟩ [[], up n 0, x] = (if refCut n a b then up n 0 else ((up n 0).drop a.toNat).take (b.toNat - a.toNat), refCut n a b) := by
    intro x
    rw [make_ok (xs := up n 0) (by simp [Stp.ok]) rfl]
    by_cases h : 0 ≤ a ∧ a ≤ b ∧ b ≤ (n : Int)
    · have h' : refCut n a b = false := by simp [refCut]; omega
      have e : stepOf (up n 0) 3 a b 0 = some (((up n 0).drop a.toNat).take (b.toNat - a.toNat)) := by
        unfold stepOf
        rw [if_neg (by decide), if_neg (by decide), if_neg (by decide), if_pos rfl, if_pos (by rw [up_len]; exact h)]
      rw [h', e]
      rfl
    · have h' : refCut n a b = true := by simp [refCut]; omega
      have e : stepOf (up n 0) 3 a b 0 = none := by
        unfold stepOf
        rw [if_neg (by decide), if_neg (by decide), if_neg (by decide), if_pos rfl, if_neg (by rw [up_len]; exact h)]
      rw [h', e]
      rfl
  refine ⟨if refSet n a then up n 0 else (up n 0).set a.toNat (-1), if refCut n a b then up n 0 else ((up n 0).drop a.toNat).take (b.toNat - a.toNat), ?_, ?_, ?_⟩
  · simp only [refSteps, versRun, List.nil_append, List.cons_append, h1, h2, h3]
  · intro h; rw [h]; rfl
  · intro h; rw [h]; rfl

set_option maxRecDepth 100000 in
set_option maxHeartbeats 8000000 in
theorem refused_w (c a b : Int) (w : World) (hc0 : 0 ≤ c) (hc1 : c ≤ 65535) (ha : -32768 ≤ a ∧ a ≤ 32767) (hb : -32768 ≤ b ∧ b ≤ 32767) (hG : Glob w) :
    Calls Try.prog 3 #[.int .u16 c, .int .i16 a, .int .i16 b] w fun e w' => e = .returned (.bool true) ∧ Below w.heap.size w w' := by
  obtain ⟨n, hn⟩ : ∃ n : Nat, c.tmod 501 = n := ⟨(c.tmod 501).toNat, by have := Int.tmod_nonneg 501 hc0; omega⟩
  have hn5 : n ≤ 500 := by have := Int.tmod_lt_of_pos c (b := 501) (by omega); omega
  have hwc : IntKind.i64.wrap c = c := by rw [IntKind.wrap_i64]; omega
  have hwa : IntKind.i64.wrap a = a := by rw [IntKind.wrap_i64]; omega
  have hwb : IntKind.i64.wrap b = b := by rw [IntKind.wrap_i64]; omega
  have HG := Lib.hid hG
  clear hG
  go_enter Try.func3, Try.ntmps3
  go_wp2_with fail
  have hb1 : Below w.heap.size w (w.alloc (.cells ((refSteps n a b).flatMap Stp.cells).toArray 29)) := (Below.refl _ _).alloc (Nat.le_refl _) _
  have hst := heap_alloc_last w (.cells ((refSteps n a b).flatMap Stp.cells).toArray 29)
  have hrun := listRun_any _ (.slice none 0 0) 0 [] (refSteps n a b) w.heap.size 0 3 (lt_of_block hst) (steps_at hst) (new0 _) (show 0 + 100000 * (3 + 1) < 33554431 by decide) (HG.out.stay (Stay.of_below hb1))
  obtain ⟨x, y, hvs, hx, hy⟩ := refRun n a b (by omega)
  rw [hvs] at hrun
  have HRUN := Lib.hid hrun
  have HB1 := Lib.hid hb1
  have HX := Lib.hid hx
  have HY := Lib.hid hy
  clear hb1 hst hrun hvs hx hy hwc hwa hwb
  change Calls Try.prog 15 _ (w.alloc (.cells ((refSteps n a b).flatMap Stp.cells).toArray 29)) _
  refine HRUN.out.mono ?_
  clear HRUN
  rintro e w2 ⟨l, p, rfl, hb, ⟨g, cap, rfl, ho⟩, ⟨pa, pc, rfl, hp⟩⟩
  have HB2 := Lib.hid (HB1.out.trans (hb.mono HB1.out.size))
  obtain ⟨a1, c1, hc1, hs1⟩ := ho 1 (up n 0) rfl
  obtain ⟨a2, c2, hc2, hs2⟩ := ho 2 x rfl
  obtain ⟨a3, c3, hc3, hs3⟩ := ho 3 y rfl
  obtain ⟨pg, po, rfl, hp1⟩ := hp 1 (.bool (refSet n a)) rfl
  obtain ⟨_, _, hp2', hp2⟩ := hp 2 (.bool (refCut n a b)) rfl
  simp only [Option.some.injEq, Addr.mk.injEq, and_true] at hp2'
  obtain ⟨rfl, rfl⟩ := hp2'
  have HS1 := Lib.hid hs1
  have HS2 := Lib.hid hs2
  have HS3 := Lib.hid hs3
  have HC1 := Lib.hid hc1
  have HC2 := Lib.hid hc2
  have HC3 := Lib.hid hc3
  have HP := Lib.hid (And.intro hp1 hp2)
  clear HB1 hb ho hp hs1 hs2 hs3 hc1 hc2 hc3 hp1 hp2
  simp only [List.length_cons, List.length_nil, Nat.zero_add, Nat.reduceAdd, List.map_cons, List.map_nil]
  go_upto_region 6 with (fail)
  go_cut [12, 13] from 41 to 59 (fun v12 v13 wc => v12 = .bool (refSet n a) ∧ v13 = .bool (refCut n a b) ∧ w2 = wc)
  case first =>
    by_cases q1 : a < 0
    · have d1 : decide (a < 0) = true := by simp [q1]
      go_wp2_with fail
      go_meet
      case rel => exact ⟨by simp only [refSet, d1, Bool.true_or] <;> (try rfl), by simp only [refCut, d1, Bool.true_or] <;> (try rfl), rfl⟩
    · have d1 : decide (a < 0) = false := by simp; omega
      by_cases q2 : (n : Int) ≤ a
      · have d2 : decide ((n : Int) ≤ a) = true := by simp; omega
        by_cases q3 : b < a
        · have d3 : decide (b < a) = true := by simp [q3]
          go_wp2_with fail
          go_meet
          case rel => exact ⟨by simp only [refSet, d1, d2] <;> (try rfl), by simp only [refCut, d1, d3, Bool.true_or, Bool.or_true] <;> (try rfl), rfl⟩
        · have d3 : decide (b < a) = false := by simp; omega
          by_cases q4 : (n : Int) < b
          · have d4 : decide ((n : Int) < b) = true := by simp; omega
            go_wp2_with fail
            go_meet
            case rel => exact ⟨by simp only [refSet, d1, d2] <;> (try rfl), by simp only [refCut, d1, d3, d4] <;> (try rfl), rfl⟩
          · have d4 : decide ((n : Int) < b) = false := by simp; omega
            go_wp2_with fail
            go_meet
            case rel => exact ⟨by simp only [refSet, d1, d2] <;> (try rfl), by simp only [refCut, d1, d3, d4] <;> (try rfl), rfl⟩
      · have d2 : decide ((n : Int) ≤ a) = false := by simp; omega
        by_cases q3 : b < a
        · have d3 : decide (b < a) = true := by simp [q3]
          go_wp2_with fail
          go_meet
          case rel => exact ⟨by simp only [refSet, d1, d2] <;> (try rfl), by simp only [refCut, d1, d3, Bool.true_or, Bool.or_true] <;> (try rfl), rfl⟩
        · have d3 : decide (b < a) = false := by simp; omega
          by_cases q4 : (n : Int) < b
          · have d4 : decide ((n : Int) < b) = true := by simp; omega
            go_wp2_with fail
            go_meet
            case rel => exact ⟨by simp only [refSet, d1, d2] <;> (try rfl), by simp only [refCut, d1, d3, d4] <;> (try rfl), rfl⟩
          · have d4 : decide ((n : Int) < b) = false := by simp; omega
            go_wp2_with fail
            go_meet
            case rel => exact ⟨by simp only [refSet, d1, d2] <;> (try rfl), by simp only [refCut, d1, d3, d4] <;> (try rfl), rfl⟩
  case rest =>
    obtain ⟨rfl, rfl, rfl⟩ := hcut
    go_upto_region 7 with (fail)
    obtain ⟨hp1, hp2⟩ := HP.out
    have hdx : decide (up n 0 = up n 0) = true := decide_eq_true rfl
    have HDX := Lib.hid hdx
    clear hdx hn hc0 hc1 ha hb
    rcases Bool.eq_false_or_eq_true (refSet n a) with hS | hS
    · rcases Bool.eq_false_or_eq_true (refCut n a b) with hC | hC
      · have hx := HX.out hS
        subst hx
        rw [hS] at hp1 ⊢
        have hy := HY.out hC
        subst hy
        rw [hC] at hp2 ⊢
        clear hS hC HX HY HP
        have hc1 := HC1.out
        have hc2 := HC2.out
        have hc3 := HC3.out
        have HW : Hid (Same w2 w2.drew) := (Same.refl w2).drew
        refine region_segs [([0, 1, 2, 3, 4, 5, 6, 7, 8, 9, 10, 11, 12, 13, 14, 15, 16, 17, 18, 19, 20, 21], 22), ([23, 24, 25, 26, 27, 28, 29, 30, 31, 32, 33, 34], 35), ([36, 37, 38], 39)] [40, 41] (by kernel_rfl) (by kernel_rfl) ?_
        refine Veil.out ?_
        refine v_segs ?_
        simp only [opsOf, List.getElem?_toArray, List.getElem?_cons_succ, List.getElem?_cons_zero]
        repeat (refine v_step (fun K hK => ?_); go_simp; refine hK _ ?_; clear hK K)
        refine v_nil ?_
        refine v_seg rfl (fun K hK => ?_)
        go_simp
        refine (equal_ints (xs := up n 0) (ys := up n 0) (HS2.out.same HW.out) (HS1.out.same HW.out) (by rw [up_len]; omega)).mono ?_
        rintro e w3 ⟨rfl, hs⟩
        replace HW := Lib.hid (HW.out.trans hs)
        clear hs
        rw [HDX.out]
        refine hK _ _ ?_
        clear hK K
        replace hc1 := HW.out.cell HC1.out
        replace hc3 := HW.out.cell HC3.out
        refine v_segs ?_
        simp only [opsOf, List.getElem?_toArray, List.getElem?_cons_succ, List.getElem?_cons_zero]
        repeat (refine v_step (fun K hK => ?_); go_simp; refine hK _ ?_; clear hK K)
        refine v_nil ?_
        refine v_seg rfl (fun K hK => ?_)
        go_simp
        refine (equal_ints (xs := up n 0) (ys := up n 0) (HS3.out.same HW.out) (HS1.out.same HW.out) (by rw [up_len]; omega)).mono ?_
        rintro e w4 ⟨rfl, hs⟩
        replace HW := Lib.hid (HW.out.trans hs)
        clear hs
        rw [HDX.out]
        refine hK _ _ ?_
        clear hK K
        replace hc1 := HW.out.cell HC1.out
        replace hc3 := HW.out.cell HC3.out
        refine v_segs ?_
        simp only [opsOf, List.getElem?_toArray, List.getElem?_cons_succ, List.getElem?_cons_zero]
        repeat (refine v_step (fun K hK => ?_); go_simp; refine hK _ ?_; clear hK K)
        refine v_nil ?_
        refine v_seg rfl (fun K hK => ?_)
        go_simp
        refine (awake _ (HG.out.stay ((Stay.of_below HB2.out).trans (Stay.of_below (HW.out.below _))))).mono ?_
        rintro e w5 ⟨rfl, hb5⟩
        have HB5 := Lib.hid ((HB2.out.trans (HW.out.below _)).trans (hb5.mono (HB2.out.trans (HW.out.below _)).size))
        clear hb5
        refine hK _ _ ?_
        clear hK K
        refine v_tail ?_
        simp only [opsOf, List.getElem?_toArray, List.getElem?_cons_succ, List.getElem?_cons_zero]
        go_wp2_with fail
        go_ret
        exact ⟨rfl, HB5.out⟩
      · have hx := HX.out hS
        subst hx
        rw [hS] at hp1 ⊢
        rw [hC] at hp2 ⊢
        clear hS hC HX HY HP
        have hc1 := HC1.out
        have hc2 := HC2.out
        have hc3 := HC3.out
        have HW : Hid (Same w2 w2.drew) := (Same.refl w2).drew
        refine region_segs [([0, 1, 2, 3, 4, 5, 6, 7, 8, 9, 10, 11, 12, 13, 14, 15, 16, 17, 18, 19, 20, 21], 22), ([23, 24, 25, 26, 27, 28, 29, 30, 31, 32, 33, 34], 35), ([36, 37, 38], 39)] [40, 41] (by kernel_rfl) (by kernel_rfl) ?_
        refine Veil.out ?_
        refine v_segs ?_
        simp only [opsOf, List.getElem?_toArray, List.getElem?_cons_succ, List.getElem?_cons_zero]
        repeat (refine v_step (fun K hK => ?_); go_simp; refine hK _ ?_; clear hK K)
        refine v_nil ?_
        refine v_seg rfl (fun K hK => ?_)
        go_simp
        refine (equal_ints (xs := up n 0) (ys := up n 0) (HS2.out.same HW.out) (HS1.out.same HW.out) (by rw [up_len]; omega)).mono ?_
        rintro e w3 ⟨rfl, hs⟩
        replace HW := Lib.hid (HW.out.trans hs)
        clear hs
        rw [HDX.out]
        refine hK _ _ ?_
        clear hK K
        replace hc1 := HW.out.cell HC1.out
        replace hc3 := HW.out.cell HC3.out
        refine v_segs ?_
        simp only [opsOf, List.getElem?_toArray, List.getElem?_cons_succ, List.getElem?_cons_zero]
        repeat (refine v_step (fun K hK => ?_); go_simp; refine hK _ ?_; clear hK K)
        refine v_nil ?_
        refine v_seg rfl (fun K hK => ?_)
        go_simp
        refine hK _ _ ?_
        clear hK K
        refine v_segs ?_
        simp only [opsOf, List.getElem?_toArray, List.getElem?_cons_succ, List.getElem?_cons_zero]
        repeat (refine v_step (fun K hK => ?_); go_simp; refine hK _ ?_; clear hK K)
        refine v_nil ?_
        refine v_seg rfl (fun K hK => ?_)
        go_simp
        refine (awake _ (HG.out.stay ((Stay.of_below HB2.out).trans (Stay.of_below (HW.out.below _))))).mono ?_
        rintro e w5 ⟨rfl, hb5⟩
        have HB5 := Lib.hid ((HB2.out.trans (HW.out.below _)).trans (hb5.mono (HB2.out.trans (HW.out.below _)).size))
        clear hb5
        refine hK _ _ ?_
        clear hK K
        refine v_tail ?_
        simp only [opsOf, List.getElem?_toArray, List.getElem?_cons_succ, List.getElem?_cons_zero]
        go_wp2_with fail
        go_ret
        exact ⟨rfl, HB5.out⟩
    · rcases Bool.eq_false_or_eq_true (refCut n a b) with hC | hC
      · rw [hS] at hp1 ⊢
        have hy := HY.out hC
        subst hy
        rw [hC] at hp2 ⊢
        clear hS hC HX HY HP
        have hc1 := HC1.out
        have hc2 := HC2.out
        have hc3 := HC3.out
        have HW : Hid (Same w2 w2.drew) := (Same.refl w2).drew
        refine region_segs [([0, 1, 2, 3, 4, 5, 6, 7, 8, 9, 10, 11, 12, 13, 14, 15, 16, 17, 18, 19, 20, 21], 22), ([23, 24, 25, 26, 27, 28, 29, 30, 31, 32, 33, 34], 35), ([36, 37, 38], 39)] [40, 41] (by kernel_rfl) (by kernel_rfl) ?_
        refine Veil.out ?_
        refine v_segs ?_
        simp only [opsOf, List.getElem?_toArray, List.getElem?_cons_succ, List.getElem?_cons_zero]
        repeat (refine v_step (fun K hK => ?_); go_simp; refine hK _ ?_; clear hK K)
        refine v_nil ?_
        refine v_seg rfl (fun K hK => ?_)
        go_simp
        refine hK _ _ ?_
        clear hK K
        refine v_segs ?_
        simp only [opsOf, List.getElem?_toArray, List.getElem?_cons_succ, List.getElem?_cons_zero]
        repeat (refine v_step (fun K hK => ?_); go_simp; refine hK _ ?_; clear hK K)
        refine v_nil ?_
        refine v_seg rfl (fun K hK => ?_)
        go_simp
        refine (equal_ints (xs := up n 0) (ys := up n 0) (HS3.out.same HW.out) (HS1.out.same HW.out) (by rw [up_len]; omega)).mono ?_
        rintro e w4 ⟨rfl, hs⟩
        replace HW := Lib.hid (HW.out.trans hs)
        clear hs
        rw [HDX.out]
        refine hK _ _ ?_
        clear hK K
        replace hc1 := HW.out.cell HC1.out
        replace hc3 := HW.out.cell HC3.out
        refine v_segs ?_
        simp only [opsOf, List.getElem?_toArray, List.getElem?_cons_succ, List.getElem?_cons_zero]
        repeat (refine v_step (fun K hK => ?_); go_simp; refine hK _ ?_; clear hK K)
        refine v_nil ?_
        refine v_seg rfl (fun K hK => ?_)
        go_simp
        refine (awake _ (HG.out.stay ((Stay.of_below HB2.out).trans (Stay.of_below (HW.out.below _))))).mono ?_
        rintro e w5 ⟨rfl, hb5⟩
        have HB5 := Lib.hid ((HB2.out.trans (HW.out.below _)).trans (hb5.mono (HB2.out.trans (HW.out.below _)).size))
        clear hb5
        refine hK _ _ ?_
        clear hK K
        refine v_tail ?_
        simp only [opsOf, List.getElem?_toArray, List.getElem?_cons_succ, List.getElem?_cons_zero]
        go_wp2_with fail
        go_ret
        exact ⟨rfl, HB5.out⟩
      · rw [hS] at hp1 ⊢
        rw [hC] at hp2 ⊢
        clear hS hC HX HY HP
        have hc1 := HC1.out
        have hc2 := HC2.out
        have hc3 := HC3.out
        have HW : Hid (Same w2 w2.drew) := (Same.refl w2).drew
        refine region_segs [([0, 1, 2, 3, 4, 5, 6, 7, 8, 9, 10, 11, 12, 13, 14, 15, 16, 17, 18, 19, 20, 21], 22), ([23, 24, 25, 26, 27, 28, 29, 30, 31, 32, 33, 34], 35), ([36, 37, 38], 39)] [40, 41] (by kernel_rfl) (by kernel_rfl) ?_
        refine Veil.out ?_
        refine v_segs ?_
        simp only [opsOf, List.getElem?_toArray, List.getElem?_cons_succ, List.getElem?_cons_zero]
        repeat (refine v_step (fun K hK => ?_); go_simp; refine hK _ ?_; clear hK K)
        refine v_nil ?_
        refine v_seg rfl (fun K hK => ?_)
        go_simp
        refine hK _ _ ?_
        clear hK K
        refine v_segs ?_
        simp only [opsOf, List.getElem?_toArray, List.getElem?_cons_succ, List.getElem?_cons_zero]
        repeat (refine v_step (fun K hK => ?_); go_simp; refine hK _ ?_; clear hK K)
        refine v_nil ?_
        refine v_seg rfl (fun K hK => ?_)
        go_simp
        refine hK _ _ ?_
        clear hK K
        refine v_segs ?_
        simp only [opsOf, List.getElem?_toArray, List.getElem?_cons_succ, List.getElem?_cons_zero]
        repeat (refine v_step (fun K hK => ?_); go_simp; refine hK _ ?_; clear hK K)
        refine v_nil ?_
        refine v_seg rfl (fun K hK => ?_)
        go_simp
        refine (awake _ (HG.out.stay ((Stay.of_below HB2.out).trans (Stay.of_below (HW.out.below _))))).mono ?_
        rintro e w5 ⟨rfl, hb5⟩
        have HB5 := Lib.hid ((HB2.out.trans (HW.out.below _)).trans (hb5.mono (HB2.out.trans (HW.out.below _)).size))
        clear hb5
        refine hK _ _ ?_
        clear hK K
        refine v_tail ?_
        simp only [opsOf, List.getElem?_toArray, List.getElem?_cons_succ, List.getElem?_cons_zero]
        go_wp2_with fail
        go_ret
        exact ⟨rfl, HB5.out⟩

end Go.Proofs.Ytnahipfdnadccaa
