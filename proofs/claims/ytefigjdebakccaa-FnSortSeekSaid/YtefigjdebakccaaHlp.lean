/- Slices compared; keys looked at. -/
import Derived.Test.YtefigjdebakccaaSpW
namespace Go.Proofs.Ytefigjdebakccaa
open Go.RowKit

/-- v is a slice that reads these whole numbers -/
def RdI (w : World) (v : Value) (xs : List Int) : Prop :=
  ∃ (a : Option Addr) (cap : Nat), v = .slice a xs.length cap ∧ ∀ (i : Nat) (x : Int), xs[i]? = some x → ∃ g o, a = some ⟨g, o, none⟩ ∧ w.cell? ⟨g, o + i, none⟩ = some (.int .i64 x)
theorem RdI.below {w w' : World} {v : Value} {xs : List Int} (h : RdI w v xs) (b : Below w.heap.size w w') : RdI w' v xs := by
  obtain ⟨a, cap, h1, h2⟩ := h
  refine ⟨a, cap, h1, fun i e he => ?_⟩
  obtain ⟨g, o, h3, h4⟩ := h2 i e he
  exact ⟨g, o, h3, bcell b h4⟩
theorem IV.rdi {w : World} {v : Value} {xs : List Int} (h : IV w v xs) : RdI w v xs := by
  obtain ⟨a, c, h1, h2⟩ := h.reads
  refine ⟨a, c, h1, fun i x hx => ?_⟩
  obtain ⟨g, h3, h4⟩ := h2 i x hx
  exact ⟨g, 0, h3, by rw [Nat.zero_add]; exact h4⟩
theorem list_same {xs ys : List Int} (hl : xs.length = ys.length) (h : ∀ (i : Nat) (x y : Int), xs[i]? = some x → ys[i]? = some y → x = y) : xs = ys := by
  refine List.ext_getElem? fun i => ?_
  by_cases hi : i < xs.length
  · have h1 := List.getElem?_eq_getElem hi
    have h2 := List.getElem?_eq_getElem (show i < ys.length by omega)
    rw [h1, h2, h i _ _ h1 h2]
  · rw [List.getElem?_eq_none (by omega), List.getElem?_eq_none (by omega)]

set_option maxRecDepth 100000 in
set_option maxHeartbeats 1600000 in
theorem equal_w (u v : Value) (xs ys : List Int) (w : World) (hu : RdI w u xs) (hv : RdI w v ys) (hl : xs.length < 100000000) (hl2 : ys.length < 100000000) :
    Calls Try.prog 18 #[u, v] w fun e w' => e = .returned (.bool (decide (xs = ys))) ∧ Below w.heap.size w w' := by
  obtain ⟨ua, uc, rfl, hu2⟩ := hu
  obtain ⟨va, vc, rfl, hv2⟩ := hv
  obtain ⟨n, hn⟩ : ∃ n, n = xs.length := ⟨_, rfl⟩
  obtain ⟨m, hm⟩ : ∃ m, m = ys.length := ⟨_, rfl⟩
  rw [← hn] at hl ⊢
  rw [← hm] at hl2 ⊢
  have HU := Lib.hid hu2
  have HV := Lib.hid hv2
  have HN := Lib.hid hn
  have HM := Lib.hid hm
  clear hu2 hv2 hn hm
  obtain ⟨r, hr⟩ : ∃ r, r = decide (xs = ys) := ⟨_, rfl⟩
  rw [← hr]
  have HRR := Lib.hid hr
  clear hr
  by_cases hnm : n = m
  · subst hnm
    have d0 : ((n : Int) != (n : Int)) = false := by simp
    go_enter Try.func18, Try.ntmps18
    go_wp2_with fail
    go_loopg [13] n (fun k v wr => ∃ j : Nat, j + k = n ∧ v = .int .i64 (j : Int) ∧ Below w.heap.size w wr ∧ ∀ (i : Nat) (x y : Int), i < j → xs[i]? = some x → ys[i]? = some y → x = y)
    case atStart => exact ⟨0, by omega, rfl, Below.refl _ _, fun i x y h => by omega⟩
    case round =>
      obtain ⟨j, hjk, rfl, hb, hlo⟩ := hrel
      have HB := Lib.hid hb
      have HLO := Lib.hid hlo
      clear hb hlo
      by_cases hlt : j < n
      · have h1 : decide ((j : Int) < (n : Int)) = true := by simp; omega
        have hw1 : IntKind.i64.wrap ((j : Int) + 1) = (j : Int) + 1 := by rw [IntKind.wrap_i64]; omega
        have hj0 : (0 : Int) ≤ (j : Int) := by omega
        have hj1 : (j : Int) < (n : Int) := by omega
        obtain ⟨x, hx⟩ : ∃ x, xs[j]? = some x := ⟨_, List.getElem?_eq_getElem (by rw [← HN.out]; exact hlt)⟩
        obtain ⟨y, hy⟩ : ∃ y, ys[j]? = some y := ⟨_, List.getElem?_eq_getElem (by rw [← HM.out]; exact hlt)⟩
        obtain ⟨g1, o1, hg1, hc1⟩ := HU.out j x hx
        obtain ⟨g2, o2, hg2, hc2⟩ := HV.out j y hy
        subst hg1 hg2
        have hd1 := bcell HB.out hc1
        have hd2 := bcell HB.out hc2
        have HX := Lib.hid hx
        have HY := Lib.hid hy
        clear hx hy hc1 hc2
        by_cases hxy : x = y
        · have d : (x != y) = false := by simpa using hxy
          have HXY := Lib.hid hxy
          clear hxy
          go_upto_region 6 with (fail)
          refine region_tail 8 (by kernel_rfl) (by kernel_rfl) ?_
          simp only [List.take_succ_cons, List.take_zero, List.drop_succ_cons, List.drop_zero]
          repeat still_step
          refine wpStill_nil ?_
          go_wp2_with fail
          go_roundg (gk - 1)
          case measure => omega
          case rel =>
            refine ⟨j + 1, by omega, rfl, HB.out.drew, fun i x' y' hi p1 p2 => ?_⟩
            by_cases hij : i < j
            · exact HLO.out i x' y' hij p1 p2
            · obtain rfl : i = j := by omega
              rw [HX.out] at p1
              rw [HY.out] at p2
              cases p1
              cases p2
              exact HXY.out
        · have d : (x != y) = true := by simpa using hxy
          have HXY := Lib.hid hxy
          clear hxy
          go_upto_region 6 with (fail)
          refine region_tail 8 (by kernel_rfl) (by kernel_rfl) ?_
          simp only [List.take_succ_cons, List.take_zero, List.drop_succ_cons, List.drop_zero]
          repeat still_step
          refine wpStill_nil ?_
          go_wp2_with fail
          go_ret
          refine ⟨?_, HB.out.drew⟩
          have e : r = false := by
            rw [HRR.out]
            refine decide_eq_false fun e => HXY.out ?_
            have h1 := HX.out
            rw [e, HY.out] at h1
            exact (Option.some.inj h1).symm
          rw [e]
          rfl
      · have h1 : decide ((j : Int) < (n : Int)) = false := by simp; omega
        have hjn : j = n := by omega
        have HJN := Lib.hid hjn
        clear hjn
        go_wp2_with fail
        go_ret
        refine ⟨?_, HB.out⟩
        have e : r = true := by
          rw [HRR.out]
          refine decide_eq_true (list_same (by rw [← HN.out, ← HM.out]) fun i x y h1 h2 => HLO.out i x y ?_ h1 h2)
          rw [HJN.out, HN.out]
          exact (List.getElem?_eq_some_iff.1 h1).1
        rw [e]
        rfl
  · have d0 : ((n : Int) != (m : Int)) = true := by simp; omega
    have d1 : ¬ n = m := hnm
    have HNM := Lib.hid hnm
    clear hnm
    go_enter Try.func18, Try.ntmps18
    go_wp2_with fail
    go_ret
    refine ⟨?_, Below.refl _ _⟩
    have e : r = false := by
      rw [HRR.out]
      refine decide_eq_false fun e => HNM.out ?_
      rw [HN.out, HM.out, e]
    rw [e]
    rfl

/-- keys that can be asked -/
def KeysOk (xs : List Int) (most : Nat) : Prop := (∀ x ∈ xs, -1000 ≤ x ∧ x ≤ 1000) ∧ xs.length ≤ most
instance (xs : List Int) (most : Nat) : Decidable (KeysOk xs most) := by unfold KeysOk; infer_instance

set_option maxRecDepth 100000 in
set_option maxHeartbeats 1600000 in
theorem sortKeys_w (u : Value) (xs : List Int) (most : Nat) (w : World) (hu : RdI w u xs) (hl : xs.length < 10000000000) :
    Calls Try.prog 15 #[u, .int .i64 (most : Int)] w fun e w' => e = .returned (.bool (decide (KeysOk xs most))) ∧ w = w' := by
  obtain ⟨ua, uc, rfl, hu2⟩ := hu
  obtain ⟨n, hn⟩ : ∃ n, n = xs.length := ⟨_, rfl⟩
  rw [← hn] at hl ⊢
  have HU := Lib.hid hu2
  have HN := Lib.hid hn
  clear hu2 hn
  obtain ⟨r, hr⟩ : ∃ r, r = decide (KeysOk xs most) := ⟨_, rfl⟩
  rw [← hr]
  have HRR := Lib.hid hr
  clear hr
  go_enter Try.func15, Try.ntmps15
  go_wp2_with fail
  go_loopg [9] n (fun k v wr => ∃ j : Nat, j + k = n ∧ v = .int .i64 (j : Int) ∧ wr = w ∧ ∀ (i : Nat) (x : Int), i < j → xs[i]? = some x → -1000 ≤ x ∧ x ≤ 1000)
  case atStart => exact ⟨0, by omega, rfl, rfl, fun i x h => by omega⟩
  case round =>
    obtain ⟨j, hjk, rfl, rfl, hlo⟩ := hrel
    have HLO := Lib.hid hlo
    clear hlo
    by_cases hlt : j < n
    · have h1 : decide ((j : Int) < (n : Int)) = true := by simp; omega
      have hw1 : IntKind.i64.wrap ((j : Int) + 1) = (j : Int) + 1 := by rw [IntKind.wrap_i64]; omega
      have hj0 : (0 : Int) ≤ (j : Int) := by omega
      have hj1 : (j : Int) < (n : Int) := by omega
      obtain ⟨x, hx⟩ : ∃ x, xs[j]? = some x := ⟨_, List.getElem?_eq_getElem (by rw [← HN.out]; exact hlt)⟩
      obtain ⟨g1, o1, hg1, hc1⟩ := HU.out j x hx
      subst hg1
      have HX := Lib.hid hx
      clear hx
      have bad : ¬ (-1000 ≤ x ∧ x ≤ 1000) → r = false := fun h => by
        rw [HRR.out]
        exact decide_eq_false fun e => h (e.1 x (List.mem_of_getElem? HX.out))
      rcases (show x < -1000 ∨ 1000 < x ∨ (-1000 ≤ x ∧ x ≤ 1000) by omega) with h | h | h
      · have d1 : decide (x < -1000) = true := by simp; omega
        have e := bad (by omega)
        subst e
        clear bad
        go_wp2_with fail
        go_ret
        exact ⟨rfl, rfl⟩
      · have d1 : decide (x < -1000) = false := by simp; omega
        have d2 : decide (1000 < x) = true := by simp; omega
        have e := bad (by omega)
        subst e
        clear bad
        go_wp2_with fail
        go_ret
        exact ⟨rfl, rfl⟩
      · have d1 : decide (x < -1000) = false := by simp; omega
        have d2 : decide (1000 < x) = false := by simp; omega
        have H := Lib.hid h
        clear bad h
        go_wp2_with fail
        go_roundg (gk - 1)
        case measure => omega
        case rel =>
          refine ⟨j + 1, by omega, rfl, rfl, fun i x' hi p1 => ?_⟩
          by_cases hij : i < j
          · exact HLO.out i x' hij p1
          · obtain rfl : i = j := by omega
            rw [HX.out] at p1
            cases p1
            exact H.out
    · have h1 : decide ((j : Int) < (n : Int)) = false := by simp; omega
      have hjn : j = n := by omega
      have HJN := Lib.hid hjn
      clear hjn
      have hr : r = decide ((n : Int) ≤ (most : Int)) := by
        rw [HRR.out]
        refine decide_eq_decide.2 ⟨fun e => ?_, fun e => ⟨fun x hx => ?_, ?_⟩⟩
        · have := e.2
          have := HN.out
          omega
        · obtain ⟨i, hi⟩ := List.getElem?_of_mem hx
          refine HLO.out i x ?_ hi
          rw [HJN.out, HN.out]
          exact (List.getElem?_eq_some_iff.1 hi).1
        · have := HN.out
          omega
      have HR := Lib.hid hr
      clear hr
      go_wp2_with fail
      go_ret
      refine ⟨?_, rfl⟩
      rw [HR.out]
      first | rfl | simp
end Go.Proofs.Ytefigjdebakccaa
