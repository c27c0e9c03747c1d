/- Parts of slices of whole numbers. -/
import Derived.Test.YtefigjdebakccaaIx
namespace Go.Proofs.Ytefigjdebakccaa
open Go.RowKit

theorem sl22 : Try.prog.underlying 22 = some (.slice (Try.prog.elem 22)) := by kernel_rfl
theorem elem22 (w : World) : (sizeOf (Try.prog.elem 22)).run Try.prog w = .ok 1 w := by kernel_rfl
/-- a slice from a block's start on, with room for what it has -/
def Home (a : Option Addr) (n c : Nat) : Prop := n ≤ c ∧ (a = none → c = 0) ∧ ∀ x, a = some x → ∃ g, x = (⟨g, 0, none⟩ : Addr)
theorem slice22_h (a : Option Addr) (n c p : Nat) (h : Home a n c) (hp : p ≤ n) (w : World) :
    (Instr.slice 22 (.slice a n c) none (some (.int .i64 (p : Int))) none).run Try.prog w = .ok (.slice a p c) w := by
  obtain ⟨h1, h2, h3⟩ := h
  rw [run_slice_h (w := w) 22 a n c sl22 .i64 p (by omega) (by omega), elem22]
  simp only [Result.andThen_ok, sliced, Int.toNat_natCast]
  have e : (if c = 0 then a else a.map (·.add (0 * 1))) = a := by
    split
    · rfl
    · cases a with
      | none => rfl
      | some x =>
        obtain ⟨g, rfl⟩ := h3 x rfl
        simp only [Option.map_some, Nat.zero_mul, addr_add, Nat.add_zero]
  rw [e]
  rfl
theorem slice22_l (a : Option Addr) (n c l : Nat) (h : Home a n c) (hl : l ≤ n) : ∃ d : Option Addr, (d = none → c - l = 0) ∧ (l < c → ∀ g, a = some ⟨g, 0, none⟩ → d = some ⟨g, l, none⟩) ∧
    ∀ w : World, (Instr.slice 22 (.slice a n c) (some (.int .i64 (l : Int))) none none).run Try.prog w = .ok (.slice d (n - l) (c - l)) w := by
  obtain ⟨h1, h2, h3⟩ := h
  refine ⟨if c = l then a else a.map (·.add (l * 1)), fun e => ?_, fun hlc g hg => ?_, fun w => ?_⟩
  · split at e
    · omega
    · cases a with
      | none => have := h2 rfl; omega
      | some x => cases e
  · rw [if_neg (by omega), hg]
    simp only [Option.map_some, Nat.mul_one, addr_add, Nat.zero_add]
  · rw [run_slice_l (w := w) 22 a n c sl22 .i64 l (by omega) (by omega), elem22]
    simp only [Result.andThen_ok, sliced, Int.toNat_natCast]
/-- what a part reads -/
theorem reads_take {w : World} {a : Option Addr} {xs : List Int} {p : Nat} (h : ∀ (i : Nat) (x : Int), xs[i]? = some x → ∃ g, a = some ⟨g, 0, none⟩ ∧ w.cell? ⟨g, i, none⟩ = some (.int .i64 x)) :
    ∀ (i : Nat) (x : Int), (xs.take p)[i]? = some x → ∃ g q, a = some ⟨g, q, none⟩ ∧ w.cell? ⟨g, q + i, none⟩ = some (.int .i64 x) := fun i x hx => by
  rw [List.getElem?_take] at hx
  split at hx
  · obtain ⟨g, h1, h2⟩ := h i x hx
    exact ⟨g, 0, h1, by rw [Nat.zero_add]; exact h2⟩
  · cases hx
theorem reads_drop {w : World} {a d : Option Addr} {xs : List Int} {l c : Nat} (hc : xs.length ≤ c) (hd : l < c → ∀ g, a = some ⟨g, 0, none⟩ → d = some ⟨g, l, none⟩) (h : ∀ (i : Nat) (x : Int), xs[i]? = some x → ∃ g, a = some ⟨g, 0, none⟩ ∧ w.cell? ⟨g, i, none⟩ = some (.int .i64 x)) :
    ∀ (i : Nat) (x : Int), (xs.drop l)[i]? = some x → ∃ g q, d = some ⟨g, q, none⟩ ∧ w.cell? ⟨g, q + i, none⟩ = some (.int .i64 x) := fun i x hx => by
  rw [List.getElem?_drop] at hx
  have hlt := (List.getElem?_eq_some_iff.1 hx).1
  obtain ⟨g, h1, h2⟩ := h (l + i) x hx
  exact ⟨g, l, hd (by omega) g h1, h2⟩
end Go.Proofs.Ytefigjdebakccaa
