/- The search for a place. -/
import Derived.Test.YtefigjdebakccaaCmp
namespace Go.Proofs.Ytefigjdebakccaa
open Go.RowKit

/-- a comparer of an order -/
def CmpIs (o : Nat) (cv : Value) : Prop := ∃ ty v fid, cv = .iface ty v ∧ Disp ty v fid "Compare" ∧ ∀ (a b : Int) (w : World), Calls Try.prog fid #[v, .int .i64 a, .int .i64 b] w fun e w' => e = .returned (.int .i64 (cmpO o a b)) ∧ w = w'
theorem cmp_order {o : Nat} (_h : 1 ≤ o) : CmpIs o (.iface 123 (.int .u8 (o : Int))) := by
  refine ⟨123, _, 102, rfl, disp_order _, fun a b w => ?_⟩
  by_cases h2 : o = 2
  · subst h2; exact order_two a b w
  by_cases h3 : o = 3
  · subst h3; exact order_three a b w
  · have := order_else (o : Int) a b (by omega) (by omega) (by omega) w
    rw [Int.toNat_natCast] at this
    exact this
theorem cmp_default (p : Addr) : CmpIs 0 (.iface 157 (.pointer (some p))) := ⟨157, _, 116, rfl, disp_default p, fun a b w => default_w p a b w⟩

set_option maxRecDepth 100000 in
set_option maxHeartbeats 1600000 in
theorem search_w (n m fid : Nat) (caps : Array Value) (p : Nat → Bool) (w : World) (hn : n ≤ 1000000) (hm : m ≤ n) (lo : ∀ i, i < m → p i = false) (hi : ∀ i, m ≤ i → i < n → p i = true)
    (hcf : ∀ (args : Array Value) (w : World), (callFunc fid args).run Try.prog w = .ok (.enter fid args) w)
    (hf : ∀ (i : Nat) (W : World), i < n → Below w.heap.size w W → Calls Try.prog fid (#[.int .i64 (i : Int)] ++ caps) W fun e w' => e = .returned (.bool (p i)) ∧ Below W.heap.size W w') :
    Calls Try.prog 108 #[.int .i64 (n : Int), .func (.func fid) #[] caps] w fun e w' => e = .returned (.int .i64 (m : Int)) ∧ Below w.heap.size w w' := by
  have HLO := Lib.hid lo
  have HHI := Lib.hid hi
  have HF := Lib.hid hf
  clear lo hi hf
  go_enter Try.func108, Try.ntmps108
  go_wp2_with fail
  go_loopg [5, 6] n (fun k i j wr => ∃ a b : Nat, k = b - a ∧ i = .int .i64 (a : Int) ∧ j = .int .i64 (b : Int) ∧ a ≤ m ∧ m ≤ b ∧ b ≤ n ∧ Below w.heap.size w wr)
  case atStart => exact ⟨0, n, by omega, rfl, rfl, by omega, hm, by omega, Below.refl _ _⟩
  case round =>
    obtain ⟨a, b, hk, rfl, rfl, ha, hb, hbn, hw⟩ := hrel
    have HW := Lib.hid hw
    clear hw
    by_cases hlt : a < b
    · have h1 : decide ((a : Int) < (b : Int)) = true := by simp; omega
      obtain ⟨c, hc⟩ : ∃ c, c = (a + b) / 2 := ⟨_, rfl⟩
      have hc2 : ((a : Int) + (b : Int)) / 2 = (c : Int) := by omega
      have HC := Lib.hid hc
      clear hc
      go_wp2_with fail
      refine (HF.out c wr (by have := HC.out; omega) HW.out).mono ?_
      rintro e w' ⟨rfl, hb'⟩
      have HW' := Lib.hid (HW.out.trans (hb'.mono HW.out.size))
      clear hb'
      have hwc : IntKind.i64.wrap ((c : Int) + 1) = (c : Int) + 1 := by have := HC.out; rw [IntKind.wrap_i64]; omega
      by_cases hcm : c < m
      · have hp := HLO.out c hcm
        rw [hp]
        clear hp
        go_wp2_with fail
        go_roundg (b - (c + 1))
        case measure => have := HC.out; omega
        case rel => exact ⟨c + 1, b, rfl, by go_num, rfl, by omega, by omega, by omega, HW'.out⟩
      · have hp := HHI.out c (by omega) (by have := HC.out; omega)
        rw [hp]
        clear hp
        go_wp2_with fail
        go_roundg (c - a)
        case measure => have := HC.out; omega
        case rel => exact ⟨a, c, rfl, rfl, rfl, by omega, by omega, by have := HC.out; omega, HW'.out⟩
    · have h1 : decide ((a : Int) < (b : Int)) = false := by simp; omega
      obtain rfl : m = a := by omega
      go_wp2_with fail
      go_ret
      exact ⟨rfl, HW.out⟩
end Go.Proofs.Ytefigjdebakccaa
