/- The comparers' walks, and the search. -/
import Derived.Test.YtefigjdebakccaaKit
namespace Go.Proofs.Ytefigjdebakccaa
open Go.RowKit

theorem bits64 : (2 : Int) ^ IntKind.i64.bits = 18446744073709551616 := by decide
theorem bits64n : (2 : Nat) ^ IntKind.i64.bits = 18446744073709551616 := by decide
theorem and_one (x : Int) : bits BinOp.and IntKind.i64 x 1 = x % 2 := by
  unfold bits
  simp
  have h : (1 : Nat) % 2 ^ IntKind.i64.bits = 1 := by decide
  rw [h, Nat.and_one_is_mod, bits64, IntKind.wrap_i64]
  omega
theorem xor_mod (A B : Nat) : (A ^^^ B) % 2 = (A + B) % 2 := by
  have h := Nat.xor_mod_two_pow (a := A) (b := B) (n := 1)
  simp only [Nat.pow_one] at h
  rw [h]
  rcases Nat.mod_two_eq_zero_or_one A with hA | hA <;> rcases Nat.mod_two_eq_zero_or_one B with hB | hB <;> rw [hA, hB, Nat.add_mod, hA, hB] <;> rfl
theorem two64 (x : Int) : ∃ A : Nat, (x % 2 ^ IntKind.i64.bits).toNat = A ∧ A < 18446744073709551616 ∧ (A : Int) % 2 = x % 2 := by
  rw [bits64]
  exact ⟨_, rfl, by omega, by omega⟩
theorem xor_lt (A B : Nat) (hA : A < 18446744073709551616) (hB : B < 18446744073709551616) : A ^^^ B < 18446744073709551616 := by
  have e : (18446744073709551616 : Nat) = 2 ^ 64 := by decide
  rw [e] at hA hB ⊢
  exact Nat.xor_lt_two_pow hA hB
theorem wrap_mod (C : Nat) (_h : C < 18446744073709551616) : IntKind.i64.wrap (C : Int) % 2 = (C : Int) % 2 := by
  rw [IntKind.wrap_i64]
  omega
theorem par (A B C : Nat) (a b : Int) (hA : (A : Int) % 2 = a % 2) (hB : (B : Int) % 2 = b % 2) (h : C % 2 = (A + B) % 2) : (C : Int) % 2 = (a + b) % 2 := by omega
theorem xor_bits (a b : Int) : ∃ A B : Nat, bits BinOp.xor IntKind.i64 a b = IntKind.i64.wrap ((A ^^^ B : Nat) : Int) ∧ A < 18446744073709551616 ∧ B < 18446744073709551616 ∧ (A : Int) % 2 = a % 2 ∧ (B : Int) % 2 = b % 2 := by
  obtain ⟨A, hA, hA1, hA2⟩ := two64 a
  obtain ⟨B, hB, hB1, hB2⟩ := two64 b
  refine ⟨A, B, ?_, hA1, hB1, hA2, hB2⟩
  unfold bits
  simp only [BitVec.toNat_xor, BitVec.toNat_ofInt]
  rw [← hA, ← hB]
  simp
theorem xor_one (a b : Int) : bits BinOp.and IntKind.i64 (bits BinOp.xor IntKind.i64 a b) 1 = (a + b) % 2 := by
  obtain ⟨A, B, h, hA1, hB1, hA2, hB2⟩ := xor_bits a b
  rw [and_one, h, wrap_mod _ (xor_lt A B hA1 hB1)]
  exact par A B _ a b hA2 hB2 (xor_mod A B)
/-- one word of an interface's call: the nil check, the method, the call -/
def Disp (t : Nat) (v : Value) (fid : Nat) (name : String) : Prop :=
  (∀ (w : World), (nilAhead 294 t v name).run Try.prog w = .ok (some false) w) ∧
  (∀ (w : World), (method 294 t v name).run Try.prog w = .ok (fid, v) w) ∧
  (∀ (args : Array Value) (w : World), (callFunc fid args).run Try.prog w = .ok (.enter fid args) w)
theorem disp_order (o : Int) : Disp 123 (.int .u8 o) 102 "Compare" := ⟨fun w => by kernel_rfl, fun w => by kernel_rfl, fun a w => by kernel_rfl⟩
theorem disp_default (p : Addr) : Disp 157 (.pointer (some p)) 116 "Compare" := ⟨fun w => by kernel_rfl, fun w => by kernel_rfl, fun a w => by kernel_rfl⟩

set_option maxRecDepth 100000 in
set_option maxHeartbeats 400000 in
theorem order_two (a b : Int) (w : World) : Calls Try.prog 102 #[.int .u8 2, .int .i64 a, .int .i64 b] w fun e w' => e = .returned (.int .i64 (cmpO 2 a b)) ∧ w = w' := by
  rcases Int.lt_trichotomy a b with h | h | h
  · have h1 : cmpO 2 a b = 1 := cmp_hi (by rw [ltO_two]; simpa using h)
    rw [h1]
    have d1 : decide (b < a) = false := by simp; omega
    have d2 : decide (a < b) = true := by simp; omega
    clear h1
    go_enter Try.func102, Try.ntmps102
    go_wp2
    go_ret
    exact ⟨rfl, rfl⟩
  · subst h
    rw [cmp_eq]
    have d1 : decide (a < a) = false := by simp
    go_enter Try.func102, Try.ntmps102
    go_wp2
    go_ret
    exact ⟨rfl, rfl⟩
  · have h1 : cmpO 2 a b = -1 := cmp_lo (by rw [ltO_two]; simpa using h)
    rw [h1]
    have d1 : decide (b < a) = true := by simp; omega
    have d2 : decide (a < b) = false := by simp; omega
    clear h1
    go_enter Try.func102, Try.ntmps102
    go_wp2
    go_ret
    exact ⟨rfl, rfl⟩
theorem cmp_three {a b : Int} (h : (a + b) % 2 = 0) : (a < b → cmpO 3 a b = -1) ∧ (a = b → cmpO 3 a b = 0) ∧ (b < a → cmpO 3 a b = 1) :=
  ⟨fun h1 => cmp_lo (by rw [ltO_true]; omega), fun h1 => by rw [h1, cmp_eq], fun h1 => cmp_hi (by rw [ltO_true]; omega)⟩
theorem cmp_three' {a b : Int} (h : (a + b) % 2 ≠ 0) : cmpO 3 a b = a % 2 - b % 2 := by
  rcases (by omega : a % 2 = 0 ∨ a % 2 = 1) with h1 | h1
  · rw [cmp_lo (by rw [ltO_true]; omega)]; omega
  · rw [cmp_hi (by rw [ltO_true]; omega)]; omega
set_option maxRecDepth 100000 in
set_option maxHeartbeats 400000 in
theorem order_three (a b : Int) (w : World) : Calls Try.prog 102 #[.int .u8 3, .int .i64 a, .int .i64 b] w fun e w' => e = .returned (.int .i64 (cmpO 3 a b)) ∧ w = w' := by
  have hx := xor_one a b
  have ha := and_one a
  have hb := and_one b
  by_cases h : (a + b) % 2 = 0
  · obtain ⟨c1, c2, c3⟩ := cmp_three h
    rw [h] at hx
    clear h
    rcases Int.lt_trichotomy a b with h | h | h
    · rw [c1 h]
      have d1 : decide (b < a) = false := by simp; omega
      have d2 : decide (a < b) = true := by simp; omega
      clear c1 c2 c3
      go_enter Try.func102, Try.ntmps102
      go_wp2
      go_ret
      exact ⟨rfl, rfl⟩
    · subst h
      rw [cmp_eq]
      have d1 : decide (a < a) = false := by simp
      clear c1 c2 c3
      go_enter Try.func102, Try.ntmps102
      go_wp2
      go_ret
      exact ⟨rfl, rfl⟩
    · rw [c3 h]
      have d1 : decide (b < a) = true := by simp; omega
      have d2 : decide (a < b) = false := by simp; omega
      clear c1 c2 c3
      go_enter Try.func102, Try.ntmps102
      go_wp2
      go_ret
      exact ⟨rfl, rfl⟩
  · have h1 : ((a + b) % 2 != 0) = true := by simpa using h
    rw [cmp_three' h]
    rw [← hx] at h1
    have hw : IntKind.i64.wrap (a % 2 - b % 2) = a % 2 - b % 2 := by rw [IntKind.wrap_i64]; omega
    clear hx h
    go_enter Try.func102, Try.ntmps102
    go_wp2
    go_ret
    exact ⟨rfl, rfl⟩
set_option maxRecDepth 100000 in
set_option maxHeartbeats 400000 in
theorem order_else (o a b : Int) (_o0 : 0 ≤ o) (h2 : o ≠ 2) (h3 : o ≠ 3) (w : World) : Calls Try.prog 102 #[.int .u8 o, .int .i64 a, .int .i64 b] w fun e w' => e = .returned (.int .i64 (cmpO o.toNat a b)) ∧ w = w' := by
  have q2 : (o == 2) = false := by simpa using h2
  have q3 : (o == 3) = false := by simpa using h3
  have e2 : o.toNat ≠ 2 := by omega
  have e3 : o.toNat ≠ 3 := by omega
  have hl := ltO_else e2 e3
  rcases Int.lt_trichotomy a b with h | h | h
  · rw [cmp_lo (by rw [hl]; simpa using h)]
    have d1 : decide (b < a) = false := by simp; omega
    have d2 : decide (a < b) = true := by simp; omega
    clear h2 h3 e2 e3 hl
    go_enter Try.func102, Try.ntmps102
    go_wp2
    go_ret
    exact ⟨rfl, rfl⟩
  · subst h
    rw [cmp_eq]
    have d1 : decide (a < a) = false := by simp
    clear h2 h3 e2 e3 hl
    go_enter Try.func102, Try.ntmps102
    go_wp2
    go_ret
    exact ⟨rfl, rfl⟩
  · rw [cmp_hi (by rw [hl]; simpa using h)]
    have d1 : decide (b < a) = true := by simp; omega
    have d2 : decide (a < b) = false := by simp; omega
    clear h2 h3 e2 e3 hl
    go_enter Try.func102, Try.ntmps102
    go_wp2
    go_ret
    exact ⟨rfl, rfl⟩
set_option maxRecDepth 100000 in
set_option maxHeartbeats 400000 in
theorem default_two (a b : Int) (w : World) : Calls Try.prog 117 #[.int .i64 a, .int .i64 b] w fun e w' => e = .returned (.int .i64 (cmpO 0 a b)) ∧ w = w' := by
  have hl := ltO_else (o := 0) (by decide) (by decide)
  rcases Int.lt_trichotomy a b with h | h | h
  · rw [cmp_lo (by rw [hl]; simpa using h)]
    have d1 : decide (b < a) = false := by simp; omega
    have d2 : decide (a < b) = true := by simp; omega
    clear hl
    go_enter Try.func117, Try.ntmps117
    go_wp2
    go_ret
    exact ⟨rfl, rfl⟩
  · subst h
    rw [cmp_eq]
    have d1 : decide (a < a) = false := by simp
    clear hl
    go_enter Try.func117, Try.ntmps117
    go_wp2
    go_ret
    exact ⟨rfl, rfl⟩
  · rw [cmp_hi (by rw [hl]; simpa using h)]
    have d1 : decide (b < a) = true := by simp; omega
    have d2 : decide (a < b) = false := by simp; omega
    clear hl
    go_enter Try.func117, Try.ntmps117
    go_wp2
    go_ret
    exact ⟨rfl, rfl⟩
theorem as3 (a : Int) (W : World) : Sem.run Try.prog (Instr.typeAssert (Value.iface 3 (.int .i64 a)) 20 3 true) W = .ok (.tuple #[.int .i64 a, .bool true]) W := by kernel_rfl
theorem as3' (a : Int) (W : World) : Sem.run Try.prog (Instr.typeAssert (Value.iface 3 (.int .i64 a)) 20 3 false) W = .ok (.int .i64 a) W := by kernel_rfl
set_option maxRecDepth 100000 in
set_option maxHeartbeats 400000 in
theorem default_w (p : Addr) (a b : Int) (w : World) : Calls Try.prog 116 #[.pointer (some p), .int .i64 a, .int .i64 b] w fun e w' => e = .returned (.int .i64 (cmpO 0 a b)) ∧ w = w' := by
  have t1 := as3 a
  have t2 := as3' b
  go_enter Try.func116, Try.ntmps116
  go_wp2_with fail
  refine (default_two a b w).mono ?_
  rintro e w' ⟨rfl, rfl⟩
  go_wp2_with fail
  go_ret
  exact ⟨rfl, rfl⟩
end Go.Proofs.Ytefigjdebakccaa
