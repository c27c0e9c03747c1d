/- The plain arithmetic of a slice's contraction. -/
import Derived.Test.YtnahipfdnadccaaListG
namespace Go.Proofs.Ytnahipfdnadccaa
open Go.RowKit

theorem slot_nat {m d : Nat} (h : m < 32 ^ (d + 1)) : slot (m : Int) d = m / 32 ^ d := by
  unfold slot
  rw [← cast32 d]
  have e : (32 : Nat) ^ (d + 1) = 32 ^ d * 32 := Nat.pow_succ _ _
  have hp := pos32 d
  have h1 : m / 32 ^ d < 32 := Nat.div_lt_of_lt_mul (by omega)
  have h2 : ((m : Int) / ((32 ^ d : Nat) : Int)) = ((m / 32 ^ d : Nat) : Int) := by simp
  rw [h2]
  generalize m / 32 ^ d = x at *
  omega
theorem slot_neg (d : Nat) : slot (-1) d = 31 := by
  unfold slot
  rw [← cast32 d]
  have hp := pos32 d
  have h1 : (-1 : Int) / ((32 ^ d : Nat) : Int) = -1 :=
    ((Int.ediv_emod_unique (a := -1) (b := ((32 ^ d : Nat) : Int)) (r := ((32 ^ d : Nat) : Int) - 1) (q := -1) (by omega)).2 ⟨by omega, by omega, by omega⟩).1
  rw [h1]
  rfl
theorem slot_top (d : Nat) : slot ((32 ^ (d + 1) : Nat) : Int) d = 0 := by
  unfold slot
  rw [← cast32 d]
  have e : (32 : Nat) ^ (d + 1) = 32 ^ d * 32 := Nat.pow_succ _ _
  have hp := pos32 d
  have h2 : (((32 ^ (d + 1) : Nat) : Int) / ((32 ^ d : Nat) : Int)) = ((32 ^ (d + 1) / 32 ^ d : Nat) : Int) := by simp
  rw [h2, e, Nat.mul_div_cancel_left _ hp]
  rfl

/-- where a slice stands while the tree is contracted: s items from o on are wanted (ys), the tree of depth d has the window zs from q on, which shows that the way is there -/
def SliceInv (n s : Nat) (ys : List Int) (d o q : Nat) (zs : List Int) : Prop :=
  s ≤ n ∧ o + s ≤ 32 ^ (d + 1) ∧ d ≤ 7 ∧ (6 ≤ d → o + s ≤ 33285996544 + n) ∧ (1 ≤ o ∨ 1 ≤ s ∨ d < 6) ∧ q + zs.length ≤ 32 ^ (d + 1) ∧ zs ≠ [] ∧ (1 ≤ s → q = o ∧ zs = ys) ∧ (s = 0 → zs.length = 1 ∧ (q = o ∨ q + 1 = o)) ∧ ys.length = s

theorem div_same {o i M : Nat} (hM : 0 < M) (h : o / M = i) : i * M ≤ o ∧ o < i * M + M := by
  have h1 := Nat.div_add_mod o M
  have h2 := Nat.mod_lt o hM
  rw [h, Nat.mul_comm] at h1
  omega

/-- one round: the window lies in one child -/
theorem slice_step {n s : Nat} {ys : List Int} {d o q : Nat} {zs : List Int} (h : SliceInv n s ys (d + 1) o q zs) (hn : n < 33554432) (he : slot (o : Int) (d + 1) = slot ((o : Int) + s - 1) (d + 1)) :
    slot (o : Int) (d + 1) * 32 ^ (d + 1) ≤ o ∧ slot (o : Int) (d + 1) * 32 ^ (d + 1) ≤ q ∧ SliceInv n s ys d (o - slot (o : Int) (d + 1) * 32 ^ (d + 1)) (q - slot (o : Int) (d + 1) * 32 ^ (d + 1)) zs := by
  obtain ⟨h1, h2, h3, h4, h5, h6, h7, h8, h9, h10⟩ := h
  have e : (32 : Nat) ^ (d + 1 + 1) = 32 ^ (d + 1) * 32 := Nat.pow_succ _ _
  have hM := pos32 (d + 1)
  have hlt : o < 32 ^ (d + 1 + 1) := by
    rcases Nat.lt_or_ge o (32 ^ (d + 1 + 1)) with h | h
    · exact h
    · exfalso
      have ho : o = 32 ^ (d + 1 + 1) := by omega
      have hs : s = 0 := by omega
      subst hs
      have e2 : ((o : Int) + (0 : Nat) - 1) = ((o - 1 : Nat) : Int) := by omega
      rw [e2, slot_nat (m := o - 1) (by omega), ho, slot_top] at he
      have : (32 ^ (d + 1 + 1) - 1) / 32 ^ (d + 1) = 31 := by
        rw [e]
        have : 32 ^ (d + 1) * 32 - 1 = 32 ^ (d + 1) * 31 + (32 ^ (d + 1) - 1) := by omega
        rw [this, Nat.mul_add_div hM, Nat.div_eq_of_lt (by omega)]
      omega
  rw [slot_nat hlt] at he ⊢
  generalize hi : o / 32 ^ (d + 1) = i at *
  obtain ⟨g1, g2⟩ := div_same hM hi
  have hz : zs.length ≠ 0 := fun h => h7 (List.eq_nil_of_length_eq_zero h)
  have hi7 : 6 ≤ d → i = 0 := fun h6' => by
    have := h4 (by omega)
    obtain rfl : d = 6 := by omega
    have e7 : (32 : Nat) ^ (6 + 1) = 34359738368 := by decide
    rcases Nat.eq_zero_or_pos i with h | h
    · exact h
    · exfalso
      have : 1 * 32 ^ (6 + 1) ≤ i * 32 ^ (6 + 1) := Nat.mul_le_mul_right _ h
      omega
  have key : ∃ hq : i * 32 ^ (d + 1) ≤ q, q + zs.length ≤ i * 32 ^ (d + 1) + 32 ^ (d + 1) ∧ o + s ≤ i * 32 ^ (d + 1) + 32 ^ (d + 1) ∧ (1 ≤ s ∨ i * 32 ^ (d + 1) < o) := by
    rcases Nat.eq_zero_or_pos s with hs | hs
    · subst hs
      obtain ⟨hl, hq⟩ := h9 rfl
      rcases Nat.eq_zero_or_pos o with ho | ho
      · exfalso
        subst ho
        have e2 : (((0 : Nat) : Int) + (0 : Nat) - 1) = -1 := by omega
        rw [e2, slot_neg] at he
        rw [Nat.zero_div] at hi
        omega
      · have e2 : ((o : Int) + (0 : Nat) - 1) = ((o - 1 : Nat) : Int) := by omega
        rw [e2, slot_nat (by omega)] at he
        obtain ⟨g3, g4⟩ := div_same hM he.symm
        exact ⟨by omega, by omega, by omega, .inr (by omega)⟩
    · obtain ⟨rfl, rfl⟩ := h8 hs
      have e2 : ((q : Int) + s - 1) = ((q + s - 1 : Nat) : Int) := by omega
      rw [e2, slot_nat (by omega)] at he
      obtain ⟨g3, g4⟩ := div_same hM he.symm
      exact ⟨g1, by omega, by omega, .inl hs⟩
  obtain ⟨k1, k2, k3, k4⟩ := key
  refine ⟨g1, k1, h1, by omega, by omega, fun h6' => ?_, ?_, by omega, h7, fun hs => ?_, fun hs => ?_, h10⟩
  · have := h4 (by omega)
    omega
  · rcases k4 with h | h
    · exact .inr (.inl h)
    · exact .inl (by omega)
  · obtain ⟨a1, a2⟩ := h8 hs
    exact ⟨by omega, a2⟩
  · obtain ⟨a1, a2⟩ := h9 hs
    exact ⟨a1, by omega⟩

/-- the loop is left: the depth is as it should be -/
theorem slice_stop {n s : Nat} {ys : List Int} {d o q : Nat} {zs : List Int} (h : SliceInv n s ys d o q zs) (hn : n < 33554432) (he : d ≤ 1 ∨ slot (o : Int) d ≠ slot ((o : Int) + s - 1) d) : Dep n d o s := by
  obtain ⟨h1, h2, h3, h4, h5, h6, h7, h8, h9, h10⟩ := h
  refine ⟨h1, h2, h3, fun h6' => ⟨?_, by have := h4 h6'; omega⟩⟩
  rcases he with he | he
  · omega
  · have hM := pos32 d
    have h32 : 33554432 ≤ 32 ^ d := by
      have : (32 : Nat) ^ 5 ≤ 32 ^ d := Nat.pow_le_pow_right (by decide) (by omega)
      have e5 : (32 : Nat) ^ 5 = 33554432 := by decide
      omega
    have e : (32 : Nat) ^ (d + 1) = 32 ^ d * 32 := Nat.pow_succ _ _
    rcases Nat.eq_zero_or_pos s with hs | hs
    · subst hs
      have ho : 1 ≤ o := by omega
      have e2 : ((o : Int) + (0 : Nat) - 1) = ((o - 1 : Nat) : Int) := by omega
      rcases Nat.lt_or_ge o (32 ^ d) with hlt | hge
      · exfalso
        apply he
        rw [e2, slot_nat (m := o - 1) (by omega), slot_nat (by omega), Nat.div_eq_of_lt (by omega), Nat.div_eq_of_lt (by omega)]
      · omega
    · rcases Nat.lt_or_ge (o + s) (32 ^ d + 1) with hlt | hge
      · exfalso
        apply he
        have e2 : ((o : Int) + s - 1) = ((o + s - 1 : Nat) : Int) := by omega
        rw [e2, slot_nat (m := o + s - 1) (by omega), slot_nat (by omega), Nat.div_eq_of_lt (by omega), Nat.div_eq_of_lt (by omega)]
      · omega

theorem pow_two {i d : Nat} : (i : Int) * 2 ^ (d * 5) = ((i * 32 ^ d : Nat) : Int) := by rw [pow25, Int.natCast_mul, cast32]

/-- the wanted items stand in the tree -/
theorem slice_node {n s : Nat} {ys : List Int} {d o q : Nat} {zs : List Int} {w : World} {v : Value} (h : SliceInv n s ys d o q zs) (hn : Node Any w d v (win q zs)) : Node Any w d v (win o ys) := by
  obtain ⟨h1, h2, h3, h4, h5, h6, h7, h8, h9, h10⟩ := h
  rcases Nat.eq_zero_or_pos s with hs | hs
  · have hy : ys = [] := List.eq_nil_of_length_eq_zero (h10.trans hs)
    subst hy
    refine Node.mono _ _ _ _ hn fun j y _ hy => ?_
    unfold win at hy
    split at hy <;> simp at hy
  · obtain ⟨rfl, rfl⟩ := h8 hs
    exact hn

/-- the one child in which all lies -/
theorem slice_child {n s : Nat} {ys : List Int} {d o q : Nat} {zs : List Int} {w : World} {p : Nat} (h : SliceInv n s ys (d + 1) o q zs) (hn : n < 33554432) (he : slot (o : Int) (d + 1) = slot ((o : Int) + s - 1) (d + 1))
    (hd : Node Any w (d + 1) (.iface 122 (.pointer (some ⟨p, 0, none⟩))) (win q zs)) :
    ∃ (arr : Array Value) (c : Nat), w.heap[p]? = some (.cells arr 125 (0, 0)) ∧ arr.size = 33 ∧ arr[1 + slot (o : Int) (d + 1)]? = some (.iface (ty d) (.pointer (some ⟨c, 0, none⟩))) ∧
      Node Any w d (.iface (ty d) (.pointer (some ⟨c, 0, none⟩))) (win (q - slot (o : Int) (d + 1) * 32 ^ (d + 1)) zs) := by
  obtain ⟨-, k1, k2⟩ := slice_step h hn he
  have hlt := slot_lt (o : Int) (d + 1)
  generalize slot (o : Int) (d + 1) = i at *
  obtain ⟨b, arr, g1, g2, g3, g4, g5, g6⟩ := hd
  simp only [Value.iface.injEq, Value.pointer.injEq, Option.some.injEq, Addr.mk.injEq, true_and, and_true] at g1
  subst g1
  obtain ⟨c, hc, g7⟩ := g5 i hlt
  obtain ⟨-, -, -, -, -, h6, h7, -, -, -⟩ := k2
  have hz : 0 < zs.length := by
    rcases Nat.eq_zero_or_pos zs.length with h | h
    · exact absurd (List.eq_nil_of_length_eq_zero h) h7
    · exact h
  have hfun : ∀ j, win q zs (i * 32 ^ (d + 1) + j) = win (q - i * 32 ^ (d + 1)) zs j := fun j => by
    have e : q = i * 32 ^ (d + 1) + (q - i * 32 ^ (d + 1)) := by omega
    have := win_shift (o := q - i * 32 ^ (d + 1)) (m := i * 32 ^ (d + 1)) (xs := zs) j
    rw [← e] at this
    exact this
  rcases g7 with ⟨rfl, g7⟩ | g7
  · exfalso
    have h1 := g7 (q - i * 32 ^ (d + 1)) (by omega)
    rw [hfun] at h1
    unfold win at h1
    rw [if_pos (Nat.le_refl _), Nat.sub_self, List.getElem?_eq_getElem hz] at h1
    cases h1
  · obtain ⟨r, rfl⟩ := g7.ptr
    refine ⟨arr, r, g2, g3, hc, Node.mono _ _ _ _ g7 fun j y _ hy => ?_⟩
    rw [hfun]; exact hy

end Go.Proofs.Ytnahipfdnadccaa
