/- Bitmaps: what is in one, and how much ahead of a place. No program here. Conditions of this file: none.

The plain words of the map proofs: hashes, nodes, what keeps them; the hasher's walks. -/
import Derived.Test.YtpkndcmgialgcaaProg
import Derived.Test.YtpkndcmgialgcaaTree
import Derived.Test.YtpkndcmgialgcaaMapT
import Derived.Laws.BitsAllLaws
import Derived.Lib.BitFns
import Derived.WalkKit
import Derived.WalkSpells
import Derived.WalkLawsBesides
import Derived.Lib.Hide
import Derived.Laws.NewBlocks
import Derived.Laws.CopyOwn
import Derived.Deep.WholeRow
import Derived.StillTailTactics
namespace Go.Proofs.Ytpkndcmgialgcaa

/-- how many of the first n -/
def cnt (p : Nat → Bool) (n : Nat) : Nat := ((List.range n).filter p).length
theorem cnt_zero (p : Nat → Bool) : cnt p 0 = 0 := rfl
theorem cnt_succ (p : Nat → Bool) (n : Nat) : cnt p (n + 1) = cnt p n + if p n then 1 else 0 := by
  unfold cnt
  rw [List.range_succ, List.filter_append, List.length_append]
  congr 1
  by_cases h : p n = true
  · simp [h]
  · simp [h]
theorem cnt_congr {p q : Nat → Bool} : ∀ {n : Nat}, (∀ i, i < n → p i = q i) → cnt p n = cnt q n
  | 0, _ => rfl
  | n + 1, h => by rw [cnt_succ, cnt_succ, cnt_congr fun i hi => h i (by omega), h n (by omega)]
theorem cnt_add (p : Nat → Bool) (a : Nat) : ∀ b, cnt p (a + b) = cnt p a + cnt (fun i => p (a + i)) b
  | 0 => rfl
  | b + 1 => by rw [← Nat.add_assoc, cnt_succ, cnt_succ, cnt_add p a b, Nat.add_assoc]
theorem cnt_mono (p : Nat → Bool) {a b : Nat} (h : a ≤ b) : cnt p a ≤ cnt p b := by
  obtain ⟨c, rfl⟩ := Nat.le.dest h
  rw [cnt_add]
  omega
theorem cnt_lt (p : Nat → Bool) {a b : Nat} (h : a < b) (ha : p a = true) : cnt p a < cnt p b := by
  have h1 := cnt_mono p (show a + 1 ≤ b by omega)
  rw [cnt_succ, if_pos ha] at h1
  omega
theorem cnt_le (p : Nat → Bool) : ∀ n, cnt p n ≤ n
  | 0 => Nat.le_refl _
  | n + 1 => by
    have := cnt_le p n
    rw [cnt_succ]
    split <;> omega
theorem cnt_none {p : Nat → Bool} {n : Nat} (h : ∀ i, i < n → p i = false) : cnt p n = 0 := by
  have : cnt p n = cnt (fun _ => false) n := cnt_congr h
  rw [this]
  simp [cnt]
/-- what stands ahead of f -/
theorem cnt_below (p : Nat → Bool) {f n : Nat} (h : f ≤ n) : cnt (fun i => p i && decide (i < f)) n = cnt p f := by
  obtain ⟨c, rfl⟩ := Nat.le.dest h
  rw [cnt_add, cnt_none (p := fun i => p (f + i) && decide (f + i < f)) fun i _ => by simp]
  exact cnt_congr fun i hi => by simp [hi]
/-- one more, one less -/
theorem cnt_more {p q : Nat → Bool} {f : Nat} (hp : p f = false) (hq : q f = true) (ho : ∀ i, i ≠ f → q i = p i) {n : Nat} : cnt q n = cnt p n + if f < n then 1 else 0 := by
  induction n with
  | zero => rfl
  | succ n ih =>
    rw [cnt_succ, cnt_succ, ih]
    by_cases e : n = f
    · subst e
      rw [hp, hq]
      simp
    · rw [ho n e]
      by_cases h : f < n
      · rw [if_pos h, if_pos (show f < n + 1 by omega)]; omega
      · rw [if_neg h, if_neg (show ¬ f < n + 1 by omega)]; omega

theorem byte_count : ∀ n : Fin 256, Lib.onesCount n.val = cnt n.val.testBit 8 := by decide +kernel
theorem count_bytes (x : Nat) : cnt x.testBit 32 = cnt (x / 16777216 % 256).testBit 8 + cnt (x / 65536 % 256).testBit 8 + cnt (x / 256 % 256).testBit 8 + cnt (x % 256).testBit 8 := by
  have key : ∀ (j n : Nat), n = 2 ^ j → cnt (fun i => x.testBit (j + i)) 8 = cnt (x / n % 256).testBit 8 := by
    rintro j n rfl
    refine cnt_congr fun i hi => ?_
    rw [show (256 : Nat) = 2 ^ 8 by decide, Nat.testBit_mod_two_pow, Nat.testBit_div_two_pow, Nat.add_comm]
    simp [hi]
  have h0 : cnt x.testBit 8 = cnt (x % 256).testBit 8 := by
    refine cnt_congr fun i hi => ?_
    rw [show (256 : Nat) = 2 ^ 8 by decide, Nat.testBit_mod_two_pow]
    simp [hi]
  rw [show (32 : Nat) = 24 + 8 by decide, cnt_add, key 24 16777216 (by decide), show (24 : Nat) = 16 + 8 by decide, cnt_add, key 16 65536 (by decide), show (16 : Nat) = 8 + 8 by decide, cnt_add, key 8 256 (by decide), h0]
  omega
theorem count_table (x : Int) (h0 : 0 ≤ x) (h1 : x < 4294967296) : (Lib.pop8 (x / 16777216) + Lib.pop8 (x / 65536 % 256) + Lib.pop8 (x / 256 % 256) + Lib.pop8 (x % 256)) % 256 = (cnt x.toNat.testBit 32 : Nat) := by
  have key : ∀ b : Int, 0 ≤ b → b < 256 → Lib.pop8 b = (cnt b.toNat.testBit 8 : Nat) := fun b hb0 hb1 => by
    have e := Lib.pop8_eq ⟨b.toNat, by omega⟩
    have e2 := byte_count ⟨b.toNat, by omega⟩
    simp only [Int.toNat_of_nonneg hb0] at e
    rw [e, e2]
  obtain ⟨n, rfl⟩ := Int.eq_ofNat_of_zero_le h0
  rw [key _ (by omega) (by omega), key _ (by omega) (by omega), key _ (by omega) (by omega), key _ (by omega) (by omega), count_bytes]
  have e3 : ((n : Int) / 16777216).toNat = n / 16777216 % 256 := by omega
  have e2 : ((n : Int) / 65536 % 256).toNat = n / 65536 % 256 := by omega
  have e1 : ((n : Int) / 256 % 256).toNat = n / 256 % 256 := by omega
  have e0 : ((n : Int) % 256).toNat = n % 256 := by omega
  rw [e3, e2, e1, e0, Int.toNat_natCast]
  have l3 := cnt_le (n / 16777216 % 256).testBit 8
  have l2 := cnt_le (n / 65536 % 256).testBit 8
  have l1 := cnt_le (n / 256 % 256).testBit 8
  have l0 := cnt_le (n % 256).testBit 8
  omega

theorem bits32 : IntKind.u32.bits = 32 := rfl
theorem and_u32 (a b : Nat) (ha : a < 4294967296) (hb : b < 4294967296) : bits BinOp.and IntKind.u32 a b = ((a &&& b : Nat) : Int) := by
  unfold bits
  simp
  have h := Nat.and_lt_two_pow (n := 32) a (y := b) (by omega)
  have e2 : (2 : Nat) ^ 32 = 4294967296 := by decide
  rw [bits32, e2, Nat.mod_eq_of_lt ha, Nat.mod_eq_of_lt hb, IntKind.wrap_u32]
  omega
theorem or_u32 (a b : Nat) (ha : a < 4294967296) (hb : b < 4294967296) : bits BinOp.or IntKind.u32 a b = ((a ||| b : Nat) : Int) := by
  unfold bits
  simp
  have h := Nat.or_lt_two_pow (n := 32) (x := a) (y := b) (by omega) (by omega)
  have e2 : (2 : Nat) ^ 32 = 4294967296 := by decide
  rw [bits32, e2, Nat.mod_eq_of_lt ha, Nat.mod_eq_of_lt hb, IntKind.wrap_u32]
  omega
theorem xor_u32 (a b : Nat) (ha : a < 4294967296) (hb : b < 4294967296) : bits BinOp.xor IntKind.u32 a b = ((a ^^^ b : Nat) : Int) := by
  unfold bits
  simp
  have h := Nat.xor_lt_two_pow (n := 32) (x := a) (y := b) (by omega) (by omega)
  have e2 : (2 : Nat) ^ 32 = 4294967296 := by decide
  rw [bits32, e2, Nat.mod_eq_of_lt ha, Nat.mod_eq_of_lt hb, IntKind.wrap_u32]
  omega

/-- the words of a bitmap as the program has them -/
theorem pow_mod {f : Nat} (hf : f < 32) : (2 : Int) ^ f % 4294967296 = ((2 ^ f : Nat) : Int) := by
  have h : 2 ^ f < 4294967296 := by
    have := Nat.pow_lt_pow_right (a := 2) (by decide) hf
    omega
  have e : (2 : Int) ^ f = ((2 ^ f : Nat) : Int) := by simp
  rw [e]
  generalize 2 ^ f = M at h ⊢
  omega
theorem and_bit (m f : Nat) (hm : m < 4294967296) (hf : f < 32) : bits BinOp.and IntKind.u32 m (2 ^ f % 4294967296) = ((m &&& 2 ^ f : Nat) : Int) := by
  have h : 2 ^ f < 4294967296 := by
    have := Nat.pow_lt_pow_right (a := 2) (by decide) hf
    omega
  rw [pow_mod hf, and_u32 _ _ hm h]
theorem and_low (m f : Nat) (hm : m < 4294967296) (hf : f < 32) : bits BinOp.and IntKind.u32 m ((2 ^ f % 4294967296 - 1) % 4294967296) = ((m &&& (2 ^ f - 1) : Nat) : Int) := by
  have h : 2 ^ f < 4294967296 := by
    have := Nat.pow_lt_pow_right (a := 2) (by decide) hf
    omega
  have h0 : 0 < 2 ^ f := Nat.pow_pos (by decide)
  have e : (((2 ^ f : Nat) : Int) - 1) % 4294967296 = ((2 ^ f - 1 : Nat) : Int) := by
    generalize 2 ^ f = M at h h0 ⊢
    omega
  rw [pow_mod hf, e, and_u32 _ _ hm (by omega)]
theorem and_lt {a b : Nat} (ha : a < 4294967296) : a &&& b < 4294967296 := Nat.lt_of_le_of_lt Nat.and_le_left ha

/-- m is the bitmap of p -/
def Bm (m : Nat) (p : Nat → Bool) : Prop := m < 4294967296 ∧ ∀ i, i < 32 → m.testBit i = p i
theorem pow_lt {f : Nat} (hf : f < 32) : 2 ^ f < 4294967296 := by
  have := Nat.pow_lt_pow_right (a := 2) (by decide) hf
  omega
theorem bm_test {m f : Nat} {p : Nat → Bool} (h : Bm m p) (hf : f < 32) : (m &&& 2 ^ f = 0) ↔ p f = false := by
  rw [← h.2 f hf]
  constructor
  · intro e
    have := congrArg (fun x => x.testBit f) e
    simpa [Nat.testBit_two_pow] using this
  · intro e
    apply Nat.eq_of_testBit_eq
    intro i
    rw [Nat.testBit_and, Nat.testBit_two_pow, Nat.zero_testBit]
    by_cases h1 : f = i
    · subst h1; simp [e]
    · simp [h1]
theorem bm_or {m f : Nat} {p : Nat → Bool} (h : Bm m p) (hf : f < 32) : Bm (m ||| 2 ^ f) (fun i => p i || decide (i = f)) := by
  refine ⟨?_, fun i hi => ?_⟩
  · have := Nat.or_lt_two_pow (n := 32) (x := m) (y := 2 ^ f) (by have := h.1; omega) (by have := pow_lt hf; omega)
    omega
  · rw [Nat.testBit_or, h.2 i hi, Nat.testBit_two_pow]
    congr 1
    rw [Bool.eq_iff_iff]
    simp [eq_comm]
theorem bm_xor {m f : Nat} {p : Nat → Bool} (h : Bm m p) (hf : f < 32) (hp : p f = true) : Bm (m ^^^ 2 ^ f) (fun i => p i && !decide (i = f)) := by
  refine ⟨?_, fun i hi => ?_⟩
  · have := Nat.xor_lt_two_pow (n := 32) (x := m) (y := 2 ^ f) (by have := h.1; omega) (by have := pow_lt hf; omega)
    omega
  · rw [Nat.testBit_xor, h.2 i hi, Nat.testBit_two_pow]
    by_cases e : i = f
    · subst e; simp [hp]
    · have e' : ¬ f = i := fun h => e h.symm
      simp [e, e']
theorem bm_one {f : Nat} (hf : f < 32) : Bm (2 ^ f) (fun i => decide (i = f)) := by
  refine ⟨pow_lt hf, fun i _ => ?_⟩
  rw [Nat.testBit_two_pow, Bool.eq_iff_iff]
  simp [eq_comm]
theorem bm_rank {m f : Nat} {p : Nat → Bool} (h : Bm m p) (hf : f < 32) : cnt (m &&& (2 ^ f - 1)).testBit 32 = cnt p f := by
  rw [← cnt_below p (show f ≤ 32 by omega)]
  refine cnt_congr fun i hi => ?_
  rw [Nat.testBit_and, Nat.testBit_two_pow_sub_one, h.2 i hi]
theorem bm_congr {m : Nat} {p q : Nat → Bool} (h : Bm m p) (he : ∀ i, i < 32 → p i = q i) : Bm m q := ⟨h.1, fun i hi => by rw [h.2 i hi, he i hi]⟩
end Go.Proofs.Ytpkndcmgialgcaa

namespace Go.Proofs.Ytpkndcmgialgcaa
open Go.RowKit

@[go_sem] theorem run_makeFunc' (P : Program) (fn : Fn) (first cap : Array Value) (w : World) : (Instr.makeFunc fn first cap).run P w = .ok (.func fn first cap) w := rfl

/-- the last bits of a word -/
theorem mask255 (x : Int) (h0 : 0 ≤ x) (h1 : x < 4294967296) : bits BinOp.and IntKind.u32 x 255 = x % 256 := by
  unfold bits
  simp
  have h : (255 : Nat) % 2 ^ IntKind.u32.bits = 255 := by decide
  rw [h, nat_mask8]
  have e : IntKind.u32.bits = 32 := rfl
  have e2 : (2 : Int) ^ 32 = 4294967296 := by decide
  rw [e, e2, Int.emod_eq_of_lt h0 h1, IntKind.wrap_u32]
  omega
theorem mask31 (x : Int) (h0 : 0 ≤ x) (h1 : x < 4294967296) : bits BinOp.and IntKind.u32 x 31 = x % 32 := by
  unfold bits
  simp
  have h : (31 : Nat) % 2 ^ IntKind.u32.bits = 31 := by decide
  rw [h, nat_mask5]
  have e : IntKind.u32.bits = 32 := rfl
  have e2 : (2 : Int) ^ 32 = 4294967296 := by decide
  rw [e, e2, Int.emod_eq_of_lt h0 h1, IntKind.wrap_u32]
  omega

/-- a hasher's value -/
def av (mo mu sh : Int) : Value := .agg #[.int .u32 mo, .int .u32 mu, .int .u8 sh]

set_option maxRecDepth 100000 in
set_option maxHeartbeats 400000 in
theorem equal_w (mo mu sh a b : Int) (w : World) :
    Calls Try.prog 166 #[av mo mu sh, .int .i64 a, .int .i64 b] w fun e w' => e = .returned (.bool (decide (a = b))) ∧ Below w.heap.size w w' := by
  unfold av
  go_enter Try.func166, Try.ntmps166
  go_wp2
  go_ret
  refine ⟨rfl, (Below.refl _ _).alloc (Nat.le_refl _) _⟩

/-- what the hasher computes -/
def hs (mo mu sh k : Int) : Int := k % 4294967296 * mu % 4294967296 % mo * 2 ^ sh.toNat % 4294967296

set_option maxRecDepth 100000 in
set_option maxHeartbeats 400000 in
theorem hash_w (mo mu sh a : Int) (w : World) (h0 : ¬ mo = 0) (hs0 : 0 ≤ sh) (hs1 : sh < 32) :
    Calls Try.prog 167 #[av mo mu sh, .int .i64 a] w fun e w' => e = .returned (.int .u32 (hs mo mu sh a)) ∧ Below w.heap.size w w' := by
  unfold av
  go_enter Try.func167, Try.ntmps167
  go_wp2
  go_region
  go_wp2
  go_ret
  exact ⟨rfl, ((Below.refl _ _).alloc (Nat.le_refl _) _).drew⟩


set_option maxRecDepth 100000 in
set_option maxHeartbeats 400000 in
theorem pop_w (x : Int) (w : World) (h0 : 0 ≤ x) (h1 : x < 4294967296) :
    Calls Try.prog 201 #[.int .u32 x] w fun e w' => e = .returned (.int .i64 (cnt x.toNat.testBit 32 : Nat)) ∧ Below w.heap.size w w' := by
  have hb := mask255 x h0 h1
  have hb2 := mask255 (x / 256) (by omega) (by omega)
  have hc0 : 0 ≤ x / 16777216 := by omega
  have hc1 : x / 16777216 ≤ 255 := by omega
  have hb3 := mask255 (x / 65536) (by omega) (by omega)
  go_enter Try.func201, Try.ntmps201
  go_wp2
  go_region
  go_wp2
  go_ret
  refine ⟨?_, (Below.refl _ _).drew⟩
  rw [← count_table x h0 h1]
  rfl

end Go.Proofs.Ytpkndcmgialgcaa
