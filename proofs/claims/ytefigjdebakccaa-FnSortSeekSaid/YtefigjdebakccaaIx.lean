/- Where a number stands in a slice; whether it does. -/
import Derived.Test.YtefigjdebakccaaApp
namespace Go.Proofs.Ytefigjdebakccaa
open Go.RowKit

/-- r is the place of key in xs, or -1 -/
def IxIs (xs : List Int) (key r : Int) : Prop := (r = -1 ∧ key ∉ xs) ∨ ∃ i : Nat, r = (i : Int) ∧ xs[i]? = some key ∧ ∀ j, j < i → xs[j]? ≠ some key

set_option maxRecDepth 100000 in
set_option maxHeartbeats 1600000 in
theorem index_w (u : Value) (xs : List Int) (key : Int) (w : World) (hu : RdI w u xs) (hl : xs.length < 100000000) :
    Calls Try.prog 38 #[u, .int .i64 key] w fun e w' => ∃ r : Int, e = .returned (.int .i64 r) ∧ IxIs xs key r ∧ w = w' := by
  obtain ⟨ua, uc, rfl, hu2⟩ := hu
  obtain ⟨n, hn⟩ : ∃ n, n = xs.length := ⟨_, rfl⟩
  rw [← hn] at hl ⊢
  have HU := Lib.hid hu2
  have HN := Lib.hid hn
  clear hu2 hn
  go_enter Try.func38, Try.ntmps38
  go_wp2_with fail
  go_loopg [8] n (fun k v wr => ∃ j : Nat, j + k = n ∧ v = .int .i64 (j : Int) ∧ wr = w ∧ ∀ i, i < j → xs[i]? ≠ some key)
  case atStart => exact ⟨0, by omega, rfl, rfl, fun i h => by omega⟩
  case round =>
    obtain ⟨j, hjk, rfl, rfl, hlo⟩ := hrel
    have HLO := Lib.hid hlo
    clear hlo
    by_cases hlt : j < n
    · have h1 : decide ((j : Int) < (n : Int)) = true := by simp; omega
      have hw1 : IntKind.i64.wrap ((j : Int) + 1) = (j : Int) + 1 := by rw [IntKind.wrap_i64]; omega
      have hj0 : (0 : Int) ≤ (j : Int) := by omega
      have hj1 : (j : Int) < (n : Int) := by omega
      obtain ⟨x, hx⟩ : ∃ x, xs[j]? = some x := ⟨_, List.getElem?_eq_getElem (by rw [← HN.out]; exact hlt)⟩
      obtain ⟨g1, o1, hg1, hc1⟩ := HU.out j x hx
      subst hg1
      have HX := Lib.hid hx
      clear hx
      by_cases hk : key = x
      · have d : (key == x) = true := by simpa using hk
        have HK := Lib.hid hk
        clear hk
        go_wp2_with fail
        go_ret
        exact ⟨_, rfl, .inr ⟨j, rfl, by rw [HX.out, HK.out], HLO.out⟩, rfl⟩
      · have d : (key == x) = false := by simpa using hk
        have HK := Lib.hid hk
        clear hk
        go_wp2_with fail
        go_roundg (gk - 1)
        case measure => omega
        case rel =>
          refine ⟨j + 1, by omega, rfl, rfl, fun i hi => ?_⟩
          by_cases hij : i < j
          · exact HLO.out i hij
          · obtain rfl : i = j := by omega
            rw [HX.out]
            intro e
            exact HK.out (Option.some.inj e).symm
    · have h1 : decide ((j : Int) < (n : Int)) = false := by simp; omega
      have hjn : j = n := by omega
      have HJN := Lib.hid hjn
      clear hjn
      go_wp2_with fail
      go_ret
      refine ⟨_, rfl, .inl ⟨rfl, fun hm => ?_⟩, rfl⟩
      obtain ⟨i, hi⟩ := List.getElem?_of_mem hm
      refine HLO.out i ?_ hi
      rw [HJN.out, HN.out]
      exact (List.getElem?_eq_some_iff.1 hi).1
set_option maxRecDepth 100000 in
set_option maxHeartbeats 800000 in
theorem contains_w (u : Value) (xs : List Int) (key : Int) (w : World) (hu : RdI w u xs) (hl : xs.length < 100000000) :
    Calls Try.prog 35 #[u, .int .i64 key] w fun e w' => e = .returned (.bool (decide (key ∈ xs))) ∧ w = w' := by
  have HIX := Lib.hid (index_w u xs key w hu hl)
  obtain ⟨ua, uc, rfl, -⟩ := hu
  obtain ⟨n, hn⟩ : ∃ n, n = xs.length := ⟨_, rfl⟩
  rw [← hn] at HIX ⊢
  obtain ⟨b, hb⟩ : ∃ b, b = decide (key ∈ xs) := ⟨_, rfl⟩
  rw [← hb]
  have HB := Lib.hid hb
  clear hn hb
  go_enter Try.func35, Try.ntmps35
  go_wp2_with fail
  refine HIX.out.mono ?_
  rintro e w' ⟨r, rfl, hr, rfl⟩
  have hd : decide ((0 : Int) ≤ r) = b := by
    rw [HB.out]
    rcases hr with ⟨rfl, h⟩ | ⟨i, rfl, h, -⟩
    · rw [decide_eq_false h]; rfl
    · rw [decide_eq_true (List.mem_of_getElem? h)]; simp
  clear hr
  go_wp2_with fail
  go_ret
  exact ⟨rfl, rfl⟩
end Go.Proofs.Ytefigjdebakccaa
