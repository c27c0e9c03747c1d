/- The law FnListUndone: what its steps make; an append in a region. Conditions of this file: none. -/
import Derived.Test.YtnahipfdnadccaaClone
import Derived.Test.YtnahipfdnadccaaSlices
import Derived.Test.YtnahipfdnadccaaSegR
import Derived.Laws.AppendOwnNone
namespace Go.Proofs.Ytnahipfdnadccaa
open Go.RowKit

theorem wp_append_sln {ops : Array Oper} {w : World} {o : Oper} {a : Act} {K : Act → World → Prop} {Q : Exit → Act → World → Prop} (s x : Operand) (ho : o.op = .call { callee := .builtin .append, args := #[s, x], argTypes := #[32, 32] })
    (B : Nat) (v : Value) (n : Nat) (xs : List Int) (hs : a.eval s = v) (hown : w.ownsRow B 2 1 v n (xs.map (Value.int .i64))) (u : Value) (ys : List Int) (hx : a.eval x = u) (hu : SlN w u (ys.map (Value.int .i64)))
    (hn : n + ys.length ≤ 1000000000) (hbase : B ≤ w.heap.size)
    (h : ∀ v' w', w'.ownsRow B 2 1 v' (n + ys.length) ((xs ++ ys).map (Value.int .i64)) → w.grownBy w' v.ownBlock → K (a.put o.dst v') w') : o.wp Try.prog a w K Q := by
  have _ := ops
  obtain ⟨i2, hi, hz0, hz1, hz2⟩ := info_parts info2
  obtain ⟨ad, cap, rfl, hnil, hc⟩ := hu
  cases ad with
  | none =>
    have hy0 : ys = [] := by
      cases ys with
      | nil => rfl
      | cons x r => obtain ⟨g, o, h, _⟩ := hc 0 _ rfl; cases h
    subst hy0
    have hc0 := hnil rfl
    subst hc0
    have hrun := run_append_owned_none (P := Try.prog) (w := w) B 32 o.type 2 i2 1 Try.underlying32 hi v n _ hown
    have hx' : a.eval x = .slice none 0 0 := hx
    unfold Oper.wp
    simp [execOp, ho, resolve, invoke, builtin, hs, hx', hrun, Result.andThen]
    exact h v w (by simpa using hown) ⟨rfl, rfl, rfl, Nat.le_refl _, fun _ _ _ => rfl⟩
  | some ad =>
    refine wp_append_own w s x 32 ho B 2 i2 (.int .i64 0) 1 8 Try.underlying32 hi hz0 hz1 hz2 rfl (by decide) v n _ hs hown ad ys.length cap (ys.map (Value.int .i64)) (by rw [hx, List.length_map]) (by simp) (fun j c hj => ?_) (ints_one ys) (by unfold maxLen; omega) (by omega) hbase (fun v' w' h1 h2 _ => h v' w' (by rw [List.map_append]; exact h1) h2)
    obtain ⟨g, o, h3, h4⟩ := hc j c hj
    simp only [Option.some.injEq] at h3
    subst h3
    rw [Addr.add_lit]
    exact h4

/-- a slice of one item that was built -/
theorem one_sln {w : World} {q : Nat} {x : Int} (h : w.cell? ⟨q, 0, none⟩ = some (.int .i64 x)) : SlN w (.slice (some ⟨q, 0, none⟩) 1 1) ([x].map (Value.int .i64)) := by
  refine ⟨_, _, rfl, nofun, fun i c hc => ⟨q, 0, rfl, ?_⟩⟩
  have hi : i = 0 := by
    rcases Nat.eq_zero_or_pos i with h | h
    · exact h
    · rw [List.getElem?_eq_none (by simp; omega)] at hc; cases hc
  subst hi
  simp only [List.map_cons, List.map_nil, List.getElem?_cons_zero, Option.some.injEq] at hc
  subst hc
  exact h

def undK (ah : Bool) : Nat := if ah then 5 else 4
def undL (ah : Bool) (m : Nat) : Nat := if ah then m else 0
def undX (ah : Bool) (U : List Int) (m : Nat) : List Int := if ah then (up m (-9)).reverse ++ U else U ++ up m (-9)
def undS (ah : Bool) (n m lo hi : Nat) : List Stp := [⟨5, 0, n, 0, 100⟩, ⟨undK ah, 1, m, 0, -9⟩, ⟨3, 2, lo, hi, 0⟩, ⟨0, 3, 0, 0, 4⟩, ⟨1, 3, 0, 0, 5⟩]

theorem undRun (ah : Bool) (n m lo hi : Nat) (hn : n ≤ 1500) (hm : m ≤ 1500) (hlo : lo = undL ah m) (hhi : hi = lo + n) :
    versRun (undS ah n m lo hi) ([[]], []) = ([[], (up n 100).reverse, undX ah (up n 100).reverse m, (up n 100).reverse, (up n 100).reverse ++ [4], 5 :: (up n 100).reverse], [false, false, false, false, false]) := by
  subst hhi
  subst hlo
  have hl := up_length n 100
  have hl9 := up_length m (-9)
  have m1 : Stp.make ⟨5, 0, n, 0, 100⟩ [[]] = ((up n 100).reverse, false) := make_fine (xs := []) (by simp [Stp.ok]; omega) rfl (by simp [stepOf])
  have m2 : Stp.make ⟨undK ah, 1, m, 0, -9⟩ [[], (up n 100).reverse] = (undX ah (up n 100).reverse m, false) := by
    cases ah
    · exact make_fine (xs := (up n 100).reverse) (by simp [Stp.ok, undK]; omega) rfl (by simp [stepOf, undK, undX])
    · exact make_fine (xs := (up n 100).reverse) (by simp [Stp.ok, undK]; omega) rfl (by simp [stepOf, undK, undX])
  have m3 : Stp.make ⟨3, 2, undL ah m, (undL ah m + n : Nat), 0⟩ [[], (up n 100).reverse, undX ah (up n 100).reverse m] = ((up n 100).reverse, false) := by
    refine make_fine (xs := undX ah (up n 100).reverse m) (by simp [Stp.ok]) rfl ?_
    rw [step_slice (by omega) (by cases ah <;> simp [undX, undL, hl, hl9])]
    congr 1
    cases ah
    · simp [undX, undL]
      rw [List.take_append_of_le_length (by simp [hl]), List.take_of_length_le (by simp [hl])]
    · simp only [undX, undL, if_true, Nat.add_sub_cancel_left]
      rw [List.drop_append_of_le_length (by simp [hl9]), List.drop_of_length_le (by simp [hl9]), List.nil_append, List.take_of_length_le (by simp [hl])]
  have m4 : ∀ x y : List Int, Stp.make ⟨0, 3, 0, 0, 4⟩ [[], x, y, (up n 100).reverse] = ((up n 100).reverse ++ [4], false) := fun x y => make_fine (xs := (up n 100).reverse) (by simp [Stp.ok]) rfl rfl
  have m5 : ∀ x y z : List Int, Stp.make ⟨1, 3, 0, 0, 5⟩ [[], x, y, (up n 100).reverse, z] = (5 :: (up n 100).reverse, false) := fun x y z => make_fine (xs := (up n 100).reverse) (by simp [Stp.ok]) rfl rfl
  simp only [undS, versRun, List.nil_append, List.cons_append, m1, m2, m3, m4, m5]

theorem undX_len (ah : Bool) (U : List Int) (m : Nat) : (undX ah U m).length = U.length + m := by
  cases ah <;> simp [undX, up_length] <;> omega

end Go.Proofs.Ytnahipfdnadccaa
