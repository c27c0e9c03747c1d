/- slices.Clone; ListRun's versions, nil where they have nothing. Conditions of this file: none.

The law FnListSlices: what its steps make. Conditions of this file: none.

The law FnListUndone: what its steps make; an append in a region. Conditions of this file: none.

slices.Grow of nothing, slices.Concat of two slices. Conditions of this file: none.

The law FnListJoined: what its steps make; rows of steps side by side. Conditions of this file: none. -/
import Derived.Test.YtnahipfdnadccaaDoB
import Derived.Test.YtnahipfdnadccaaCap
import Derived.Test.YtnahipfdnadccaaTree
import Derived.Test.YtnahipfdnadccaaSpecT
import Derived.Laws.AppendOwnNone
import Derived.Lib.AppendZeros
import Derived.Maps.AppendAt
namespace Go.Proofs.Ytnahipfdnadccaa
open Go.RowKit

/-- l is a slice of slices that read vs, each nil if it lies nowhere -/
def OuterN (w : World) (l : Value) (vs : List (List Int)) : Prop :=
  ∃ g cap, l = .slice (some ⟨g, 0, none⟩) vs.length cap ∧ ∀ (i : Nat) (xs : List Int), vs[i]? = some xs → ∃ a c, w.cell? ⟨g, i, none⟩ = some (.slice a xs.length c) ∧ SlN w (.slice a xs.length c) (xs.map (Value.int .i64))

theorem Rows2.outerN {w : World} {B : Nat} {l : Value} {vs : List (List Int)} (h : Rows2 w B l vs) (hne : vs ≠ []) : OuterN w l vs := by
  obtain ⟨us, h1, h2, h3⟩ := h
  rcases h1.2 with ⟨_, h0⟩ | ⟨g, cap, cur, rfl, _⟩
  · exact absurd (List.eq_nil_of_length_eq_zero h0) hne
  · refine ⟨g, cap, rfl, fun i xs hi => ?_⟩
    have hlt : i < us.length := by
      rw [h2]
      exact (List.getElem?_eq_some_iff.1 hi).1
    obtain ⟨ys, h4, h5⟩ := h3 i us[i] (List.getElem?_eq_getElem hlt)
    rw [hi] at h4
    cases h4
    have hs := SlV.of_own h5.1
    obtain ⟨a, c, h6, h7⟩ := hs
    rw [List.length_map] at h6
    have hc := h1.cells (g := g) rfl i us[i] (List.getElem?_eq_getElem hlt)
    rw [Addr.add_lit, Nat.zero_add, h6] at hc
    refine ⟨a, c, hc, a, c, by rw [List.length_map], fun ha => ?_, h7⟩
    rcases h5.1.2 with ⟨h8, h9⟩ | ⟨g', cap', cur', h8, _⟩
    · rw [h6] at h8
      simp only [Value.slice.injEq] at h8
      exact h8.2.2
    · rw [h6, ha] at h8
      cases h8

/-- ListRun, given what NewList makes of the first values -/
theorem listRun_n (w : World) (v0 : Value) (n0 : Nat) (xs0 : List Int) (steps : List Stp) (sb so cap : Nat)
    (hsb : sb < w.heap.size) (hsteps : ∀ j s, steps[j]? = some s → ∀ i u, s.cells[i]? = some u → w.cell? ⟨sb, so + j * 5 + i, none⟩ = some u)
    (hnew : Calls Try.prog 55 #[v0] w (ListPost w n0 xs0)) (hn : n0 + 100000 * (steps.length + 1) < 33554431) (hG : Glob w) :
    Calls Try.prog 15 #[v0, .slice (some ⟨sb, so, none⟩) steps.length cap] w fun e w' => ∃ l p, e = .returned (.tuple #[l, p]) ∧ Below w.heap.size w w' ∧ OuterN w' l (versRun steps ([xs0], [])).1 ∧
      SlV w' p ((versRun steps ([xs0], [])).2.map Value.bool) := by
  have hl := versRun_len steps ([xs0], [])
  have hk : 100000 * steps.length ≤ 100000 * (steps.length + 1) := Nat.mul_le_mul_left _ (by omega)
  have h8 : n0 + 100000 * steps.length < 33554432 := Nat.lt_of_le_of_lt (Nat.add_le_add_left hk _) (Nat.lt_trans hn (by decide))
  have h9 : (versRun steps ([xs0], [])).1.length ≤ 1000000 := by
    rw [hl]
    have h10 : 100000 * (steps.length + 1) < 33554431 := Nat.lt_of_le_of_lt (Nat.le_add_left _ _) hn
    have : steps.length + 1 < 1000 := by
      rcases Nat.lt_or_ge (steps.length + 1) 1000 with h | h
      · exact h
      · exfalso
        have := Nat.mul_le_mul_left 100000 h
        have h11 : 100000 * 1000 < 33554431 := Nat.lt_of_le_of_lt this h10
        exact absurd h11 (by decide)
    simp only [List.length_cons, List.length_nil]
    omega
  refine (run_w w v0 _ (n0 + 100000 * steps.length) (versRun steps ([xs0], [])).1 (versRun steps ([xs0], [])).2 h8 h9 (vers_w w v0 n0 xs0 _ steps sb so cap rfl hsb hsteps hnew hn hG)).mono ?_
  rintro e w' ⟨l, p, rfl, h1, h2, h3⟩
  exact ⟨l, p, rfl, h1, h2.outerN (by intro e; rw [e] at hl; simp at hl), SlV.of_own h3⟩

theorem clone_news {w : World} {ad : Addr} {xs : List Int} {n cap : Nat} (h : SlN w (.slice (some ad) n cap) (xs.map (Value.int .i64))) :
    ∀ j u, (xs.map (Value.int .i64))[j]? = some u → (w.alloc (.cells #[] 2)).cell? (ad.add j) = some u := fun j u hu => by
  obtain ⟨a, c, h1, _, h2⟩ := h
  obtain ⟨g, o, h3, h4⟩ := h2 j u hu
  simp only [Value.slice.injEq] at h1
  obtain ⟨h1, -⟩ := h1
  rw [h3] at h1
  simp only [Option.some.injEq] at h1
  subst h1
  have hB : Below w.heap.size w (w.alloc (.cells #[] 2)) := (Below.refl _ w).alloc (Nat.le_refl _) _
  rw [Addr.add_lit]
  exact (hB.cell (World.block_lt_of_cell? w _ h4)).trans h4

theorem eq_nil_t (w : World) : Sem.run Try.prog (binOp BinOp.eql 32 (Value.slice none 0 0) (Value.slice none 0 0)) w = .ok (.bool true) w := by kernel_rfl
theorem eq_nil_f (ad : Addr) (n c : Nat) (w : World) : Sem.run Try.prog (binOp BinOp.eql 32 (Value.slice (some ad) n c) (Value.slice none 0 0)) w = .ok (.bool false) w := by kernel_rfl

set_option maxRecDepth 100000 in
set_option maxHeartbeats 800000 in
theorem clone_sl (u : Value) (xs : List Int) (w : World) (hu : SlN w u (xs.map (Value.int .i64))) (hl : xs.length ≤ 2147483647) :
    Calls Try.prog 18 #[u] w fun e w' => ∃ v, e = .returned v ∧ w'.ownsRow w.heap.size 2 1 v xs.length (xs.map (Value.int .i64)) ∧ Below w.heap.size w w' := by
  obtain ⟨i2, hi, hz0, hz1, hz2⟩ := info_parts info2
  have HI := Lib.hid (And.intro hi (And.intro hz0 (And.intro hz1 hz2)))
  clear hi hz0 hz1 hz2
  have HU := Lib.hid hu
  have HL := Lib.hid hl
  obtain ⟨a, cap, rfl, hnil, hc⟩ := hu
  rw [List.length_map] at HU ⊢
  cases a with
  | none =>
    have hx0 : xs = [] := by
      cases xs with
      | nil => rfl
      | cons x r => obtain ⟨g, o, h, _⟩ := hc 0 _ rfl; cases h
    subst hx0
    have hc0 := hnil rfl
    subst hc0
    clear hc hnil hl HL HU HI
    have hq := eq_nil_t
    go_enter Try.func18, Try.ntmps18
    go_wp2_with fail
    go_ret
    exact ⟨_, rfl, World.ownsRow_nil _ _ _ _, Below.refl _ _⟩
  | some ad =>
    have HO : Hid ((w.alloc (.cells #[] 2)).ownsRow w.heap.size 2 1 (.slice (some ⟨w.heap.size, 0, none⟩) 0 0) 0 []) := World.ownsRow_made (base := w.heap.size) (e := 2) (size := 1) w #[] 0 (Nat.le_refl _) (by decide) rfl
    clear hc hnil hl
    have hq := eq_nil_f
    go_enter Try.func18, Try.ntmps18
    go_wp2_with (at_builtin; refine wpList_append_own _ rfl (.tmp 5) (.tmp 6) 32 rfl w.heap.size 2 i2 (.int .i64 0) 1 8 Try.underlying32 HI.out.1 HI.out.2.1 HI.out.2.2.1 HI.out.2.2.2 rfl (by decide) _ _ _ rfl HO.out ad xs.length cap (xs.map (Value.int .i64)) rfl (by simp) (clone_news HU.out) (ints_one xs) (by have := HL.out; unfold maxLen; omega) (by have := HL.out; omega) (by simp) ?_)
    intro v1 w1 hown1 hgrow1 hnil1
    have HB : Hid (Below w.heap.size w w1) := Below.grown ((Below.refl _ w).alloc (Nat.le_refl _) (.cells #[] 2)) hgrow1 (by simp) fun k hk => by simp only [Value.ownBlock, Option.some.injEq] at hk; omega
    have HO1 := Lib.hid hown1
    clear hown1 hgrow1 hnil1
    go_wp2_with fail
    go_ret
    exact ⟨_, rfl, HO1.out, HB.out⟩

end Go.Proofs.Ytnahipfdnadccaa

namespace Go.Proofs.Ytnahipfdnadccaa
open Go.RowKit

theorem up_length (n : Nat) (V : Int) : (up n V).length = n := by simp [up]

theorem make_fine {s : Stp} {vs : List (List Int)} {xs ys : List Int} (h : s.ok vs.length = true) (hx : vs[s.F.toNat]? = some xs) (hs : stepOf xs s.k s.I s.E s.V = some ys) : s.make vs = (ys, false) := by
  unfold Stp.make
  rw [if_pos h]
  have : vs.getD s.F.toNat [] = xs := by simp [List.getD, hx]
  rw [this, hs]

theorem step_slice {xs : List Int} {a b : Nat} {V : Int} (hab : a ≤ b) (hb : b ≤ xs.length) : stepOf xs 3 a b V = some ((xs.drop a).take (b - a)) := by
  unfold stepOf
  rw [if_neg (by decide), if_neg (by decide), if_neg (by decide), if_pos rfl, if_pos (by omega)]
  simp

def sliSteps (n low high i o : Nat) : List Stp := [⟨4, 0, n, 0, 7⟩, ⟨3, 1, low, high, 0⟩, ⟨3, 2, i, o, 0⟩, ⟨3, 1, (low + i : Nat), (low + o : Nat), 0⟩, ⟨3, 1, 0, n, 0⟩, ⟨3, 1, low, low, 0⟩]

theorem sliRun (n low high i o : Nat) (hn : n ≤ 2000) (h1 : low ≤ high) (h2 : high ≤ n) (h3 : i ≤ o) (h4 : o ≤ high - low) :
    versRun (sliSteps n low high i o) ([[]], []) = ([[], up n 7, ((up n 7).drop low).take (high - low), ((up n 7).drop (low + i)).take (o - i), ((up n 7).drop (low + i)).take (o - i), up n 7, []], [false, false, false, false, false, false]) := by
  have hl := up_length n 7
  have m1 : Stp.make ⟨4, 0, n, 0, 7⟩ [[]] = (up n 7, false) := make_fine (xs := []) (by simp [Stp.ok]; omega) rfl rfl
  have m2 : Stp.make ⟨3, 1, low, high, 0⟩ [[], up n 7] = (((up n 7).drop low).take (high - low), false) := make_fine (xs := up n 7) (by simp [Stp.ok]) rfl (step_slice h1 (by omega))
  have hl2 : (((up n 7).drop low).take (high - low)).length = high - low := by simp [hl]; omega
  have e2 : ((((up n 7).drop low).take (high - low)).drop i).take (o - i) = ((up n 7).drop (low + i)).take (o - i) := by
    rw [List.drop_take, List.take_take, List.drop_drop]
    congr 1
    omega
  have m3 : Stp.make ⟨3, 2, i, o, 0⟩ [[], up n 7, ((up n 7).drop low).take (high - low)] = (((up n 7).drop (low + i)).take (o - i), false) :=
    make_fine (xs := ((up n 7).drop low).take (high - low)) (by simp [Stp.ok]) rfl (by rw [← e2]; exact step_slice h3 (by omega))
  have m4 : ∀ x y : List Int, Stp.make ⟨3, 1, (low + i : Nat), (low + o : Nat), 0⟩ [[], up n 7, x, y] = (((up n 7).drop (low + i)).take (o - i), false) := fun x y =>
    make_fine (xs := up n 7) (by simp [Stp.ok]) rfl (by rw [step_slice (by omega) (by omega)]; congr 2; omega)
  have m5 : ∀ x y z : List Int, Stp.make ⟨3, 1, 0, n, 0⟩ [[], up n 7, x, y, z] = (up n 7, false) := fun x y z =>
    make_fine (xs := up n 7) (by simp [Stp.ok]) rfl (by
      have := step_slice (xs := up n 7) (a := 0) (b := n) (V := 0) (by omega) (by omega)
      simp only [List.drop_zero, Nat.sub_zero] at this
      rw [show ((0 : Nat) : Int) = 0 from rfl] at this
      rw [this]
      congr 1
      exact List.take_of_length_le (by omega))
  have m6 : ∀ x y z u : List Int, Stp.make ⟨3, 1, low, low, 0⟩ [[], up n 7, x, y, z, u] = ([], false) := fun x y z u =>
    make_fine (xs := up n 7) (by simp [Stp.ok]) rfl (by rw [step_slice (by omega) (by omega)]; simp)
  simp only [sliSteps, versRun, List.nil_append, List.cons_append, m1, m2, m3, m4, m5, m6]

end Go.Proofs.Ytnahipfdnadccaa

namespace Go.Proofs.Ytnahipfdnadccaa
open Go.RowKit

theorem wp_append_sln {ops : Array Oper} {w : World} {o : Oper} {a : Act} {K : Act → World → Prop} {Q : Exit → Act → World → Prop} (s x : Operand) (ho : o.op = .call { callee := .builtin .append, args := #[s, x], argTypes := #[32, 32] })
    (B : Nat) (v : Value) (n : Nat) (xs : List Int) (hs : a.eval s = v) (hown : w.ownsRow B 2 1 v n (xs.map (Value.int .i64))) (u : Value) (ys : List Int) (hx : a.eval x = u) (hu : SlN w u (ys.map (Value.int .i64)))
    (hn : n + ys.length ≤ 1000000000) (hbase : B ≤ w.heap.size)
    (h : ∀ v' w', w'.ownsRow B 2 1 v' (n + ys.length) ((xs ++ ys).map (Value.int .i64)) → w.grownBy w' v.ownBlock → K (a.put o.dst v') w') : o.wp Try.prog a w K Q := by
  have _ := ops
  obtain ⟨i2, hi, hz0, hz1, hz2⟩ := info_parts info2
  obtain ⟨ad, cap, rfl, hnil, hc⟩ := hu
  cases ad with
  | none =>
    have hy0 : ys = [] := by
      cases ys with
      | nil => rfl
      | cons x r => obtain ⟨g, o, h, _⟩ := hc 0 _ rfl; cases h
    subst hy0
    have hc0 := hnil rfl
    subst hc0
    have hrun := run_append_owned_none (P := Try.prog) (w := w) B 32 o.type 2 i2 1 Try.underlying32 hi v n _ hown
    have hx' : a.eval x = .slice none 0 0 := hx
    unfold Oper.wp
    simp [execOp, ho, resolve, invoke, builtin, hs, hx', hrun, Result.andThen]
    exact h v w (by simpa using hown) ⟨rfl, rfl, rfl, Nat.le_refl _, fun _ _ _ => rfl⟩
  | some ad =>
    refine wp_append_own w s x 32 ho B 2 i2 (.int .i64 0) 1 8 Try.underlying32 hi hz0 hz1 hz2 rfl (by decide) v n _ hs hown ad ys.length cap (ys.map (Value.int .i64)) (by rw [hx, List.length_map]) (by simp) (fun j c hj => ?_) (ints_one ys) (by unfold maxLen; omega) (by omega) hbase (fun v' w' h1 h2 _ => h v' w' (by rw [List.map_append]; exact h1) h2)
    obtain ⟨g, o, h3, h4⟩ := hc j c hj
    simp only [Option.some.injEq] at h3
    subst h3
    rw [Addr.add_lit]
    exact h4

/-- a slice of one item that was built -/
theorem one_sln {w : World} {q : Nat} {x : Int} (h : w.cell? ⟨q, 0, none⟩ = some (.int .i64 x)) : SlN w (.slice (some ⟨q, 0, none⟩) 1 1) ([x].map (Value.int .i64)) := by
  refine ⟨_, _, rfl, nofun, fun i c hc => ⟨q, 0, rfl, ?_⟩⟩
  have hi : i = 0 := by
    rcases Nat.eq_zero_or_pos i with h | h
    · exact h
    · rw [List.getElem?_eq_none (by simp; omega)] at hc; cases hc
  subst hi
  simp only [List.map_cons, List.map_nil, List.getElem?_cons_zero, Option.some.injEq] at hc
  subst hc
  exact h

def undK (ah : Bool) : Nat := if ah then 5 else 4
def undL (ah : Bool) (m : Nat) : Nat := if ah then m else 0
def undX (ah : Bool) (U : List Int) (m : Nat) : List Int := if ah then (up m (-9)).reverse ++ U else U ++ up m (-9)
def undS (ah : Bool) (n m lo hi : Nat) : List Stp := [⟨5, 0, n, 0, 100⟩, ⟨undK ah, 1, m, 0, -9⟩, ⟨3, 2, lo, hi, 0⟩, ⟨0, 3, 0, 0, 4⟩, ⟨1, 3, 0, 0, 5⟩]

theorem undRun (ah : Bool) (n m lo hi : Nat) (hn : n ≤ 1500) (hm : m ≤ 1500) (hlo : lo = undL ah m) (hhi : hi = lo + n) :
    versRun (undS ah n m lo hi) ([[]], []) = ([[], (up n 100).reverse, undX ah (up n 100).reverse m, (up n 100).reverse, (up n 100).reverse ++ [4], 5 :: (up n 100).reverse], [false, false, false, false, false]) := by
  subst hhi
  subst hlo
  have hl := up_length n 100
  have hl9 := up_length m (-9)
  have m1 : Stp.make ⟨5, 0, n, 0, 100⟩ [[]] = ((up n 100).reverse, false) := make_fine (xs := []) (by simp [Stp.ok]; omega) rfl (by simp [stepOf])
  have m2 : Stp.make ⟨undK ah, 1, m, 0, -9⟩ [[], (up n 100).reverse] = (undX ah (up n 100).reverse m, false) := by
    cases ah
    · exact make_fine (xs := (up n 100).reverse) (by simp [Stp.ok, undK]; omega) rfl (by simp [stepOf, undK, undX])
    · exact make_fine (xs := (up n 100).reverse) (by simp [Stp.ok, undK]; omega) rfl (by simp [stepOf, undK, undX])
  have m3 : Stp.make ⟨3, 2, undL ah m, (undL ah m + n : Nat), 0⟩ [[], (up n 100).reverse, undX ah (up n 100).reverse m] = ((up n 100).reverse, false) := by
    refine make_fine (xs := undX ah (up n 100).reverse m) (by simp [Stp.ok]) rfl ?_
    rw [step_slice (by omega) (by cases ah <;> simp [undX, undL, hl, hl9])]
    congr 1
    cases ah
    · simp [undX, undL]
      rw [List.take_append_of_le_length (by simp [hl]), List.take_of_length_le (by simp [hl])]
    · simp only [undX, undL, if_true, Nat.add_sub_cancel_left]
      rw [List.drop_append_of_le_length (by simp [hl9]), List.drop_of_length_le (by simp [hl9]), List.nil_append, List.take_of_length_le (by simp [hl])]
  have m4 : ∀ x y : List Int, Stp.make ⟨0, 3, 0, 0, 4⟩ [[], x, y, (up n 100).reverse] = ((up n 100).reverse ++ [4], false) := fun x y => make_fine (xs := (up n 100).reverse) (by simp [Stp.ok]) rfl rfl
  have m5 : ∀ x y z : List Int, Stp.make ⟨1, 3, 0, 0, 5⟩ [[], x, y, (up n 100).reverse, z] = (5 :: (up n 100).reverse, false) := fun x y z => make_fine (xs := (up n 100).reverse) (by simp [Stp.ok]) rfl rfl
  simp only [undS, versRun, List.nil_append, List.cons_append, m1, m2, m3, m4, m5]

theorem undX_len (ah : Bool) (U : List Int) (m : Nat) : (undX ah U m).length = U.length + m := by
  cases ah <;> simp [undX, up_length] <;> omega

end Go.Proofs.Ytnahipfdnadccaa

namespace Go.Proofs.Ytnahipfdnadccaa
open Go.RowKit

theorem wpList_append_sln {ops : Array Oper} {w : World} {rest : List Oper} {o : Oper} {a : Act} {Q : Exit → Act → World → Prop} (hgd : o.guard = none) (s x : Operand) (ho : o.op = .call { callee := .builtin .append, args := #[s, x], argTypes := #[32, 32] })
    (B : Nat) (v : Value) (n : Nat) (xs : List Int) (hs : a.eval s = v) (hown : w.ownsRow B 2 1 v n (xs.map (Value.int .i64))) (u : Value) (ys : List Int) (hx : a.eval x = u) (hu : SlN w u (ys.map (Value.int .i64)))
    (hn : n + ys.length ≤ 1000000000) (hbase : B ≤ w.heap.size)
    (h : ∀ v' w', w'.ownsRow B 2 1 v' (n + ys.length) ((xs ++ ys).map (Value.int .i64)) → w.grownBy w' v.ownBlock → wpList Try.prog ops Q rest (a.put o.dst v') w') : wpList Try.prog ops Q (o :: rest) a w :=
  wpList_plain hgd fun _ hK => wp_append_sln (ops := ops) s x ho B v n xs hs hown u ys hx hu hn hbase fun v' w' h1 h2 => hK _ _ (h v' w' h1 h2)

theorem cut_nil (w : World) : (Instr.sliceAt 32 (.slice none 0 0) none (some (.int .i64 0)) none).run Try.prog w = .ok (.slice none 0 0) w := by kernel_rfl
theorem cut_zero (g n c : Nat) (w : World) : (Instr.sliceAt 32 (.slice (some ⟨g, 0, none⟩) n c) none (some (.int .i64 0)) none).run Try.prog w = .ok (.slice (some ⟨g, 0, none⟩) 0 c) w := by
  rw [run_sliceAt_slice w 32 _ _ _ _ und32, run_slice_h w 32 _ _ c und32 .i64 0 (by omega) (by omega), size32]
  simp only [Result.andThen_ok, sliced]
  by_cases e : c = 0
  · subst e; rfl
  · rw [if_neg e]; rfl

set_option maxRecDepth 100000 in
set_option maxHeartbeats 800000 in
theorem grow_w (n : Nat) (w : World) (hn : n ≤ 1000000) :
    Calls Try.prog 34 #[.slice none 0 0, .int .i64 (n : Int)] w fun e w' => ∃ v, e = .returned v ∧ w'.ownsRow w.heap.size 2 1 v 0 [] ∧ Below w.heap.size w w' := by
  obtain ⟨i2, hi, hz0, hz1, hz2⟩ := info_parts info2
  have hw1 : IntKind.i64.wrap (n : Int) = (n : Int) := by rw [IntKind.wrap_i64]; omega
  have hc0 := cut_nil
  rcases Nat.eq_zero_or_pos n with h0 | h0
  · subst h0
    clear hi hz0 hz1 hz2
    go_enter Try.func34, Try.ntmps34
    go_wp2_with fail
    go_ret
    exact ⟨_, rfl, World.ownsRow_nil _ _ _ _, Below.refl _ _⟩
  · have hrun := Lib.run_append_nil_zeros (P := Try.prog) w 32 3 32 2 i2 (.int .i64 0) .i64 .i64 Try.underlying32 Try.underlying3 hi hz0 n h0 (by rw [hz1]; omega) (by omega) (by rw [hz2]; omega)
    have hge := grownCap_ge w n 0 2
    have hle := grownCap_le_maxLen w n 0 2 (by unfold maxLen; omega)
    have hO : Hid ((w.drew.alloc (.cells (Builtin.zeroCells (Value.int .i64 0).cells n ++ Builtin.zeroCells (Value.int .i64 0).cells (grownCap w n 0 2 - n)) 2)).ownsRow w.heap.size 2 1 (.slice (some ⟨w.heap.size, 0, none⟩) 0 (grownCap w n 0 2)) 0 []) :=
      World.ownsRow_made (base := w.heap.size) (e := 2) (size := 1) w.drew _ _ (Nat.le_refl _) hle (by rw [Array.size_append, size_zeroCells, size_zeroCells]; show n * 1 + (grownCap w n 0 2 - n) * 1 = _; omega)
    have hB : Hid (Below w.heap.size w (w.drew.alloc (.cells (Builtin.zeroCells (Value.int .i64 0).cells n ++ Builtin.zeroCells (Value.int .i64 0).cells (grownCap w n 0 2 - n)) 2))) := (Below.refl _ w).drew.alloc (Nat.le_refl _) _
    have HR := Lib.hid hrun
    have hpos : decide (0 < (n : Int)) = true := by simp; omega
    generalize grownCap w n 0 2 = cp at HR hO hB
    generalize w.drew.alloc (.cells (Builtin.zeroCells (Value.int .i64 0).cells n ++ Builtin.zeroCells (Value.int .i64 0).cells (cp - n)) 2) = w2 at HR hO hB
    have hc2 := cut_zero w.heap.size n cp
    clear hrun hge hle hi hz0 hz1 hz2
    go_enter Try.func34, Try.ntmps34
    go_wp2_with (at_builtin; refine Lib.wpList_append_run w rfl (.tmp 20) (.tmp 21) 32 3 rfl _ _ rfl rfl _ _ HR.out ?_)
    go_wp2_with fail
    go_ret
    exact ⟨_, rfl, hO.out, hB.out⟩

set_option maxRecDepth 100000 in
set_option maxHeartbeats 1600000 in
theorem concat_w (q cap : Nat) (ua ub : Value) (xs ys : List Int) (w : World) (h0 : w.cell? ⟨q, 0, none⟩ = some ua) (h1 : w.cell? ⟨q, 1, none⟩ = some ub) (ha : SlN w ua (xs.map (Value.int .i64))) (hb : SlN w ub (ys.map (Value.int .i64)))
    (hx : xs.length ≤ 1000) (hy : ys.length ≤ 1000) :
    Calls Try.prog 24 #[.slice (some ⟨q, 0, none⟩) 2 cap] w fun e w' => ∃ v, e = .returned v ∧ w'.ownsRow w.heap.size 2 1 v (xs.length + ys.length) ((xs ++ ys).map (Value.int .i64)) ∧ Below w.heap.size w w' := by
  have HA := Lib.hid ha
  have HB := Lib.hid hb
  have HX := Lib.hid hx
  have HY := Lib.hid hy
  have H0 := Lib.hid h0
  have H1 := Lib.hid h1
  obtain ⟨aa, ca, rfl, -, -⟩ := ha
  obtain ⟨ab, cb, rfl, -, -⟩ := hb
  rw [List.length_map] at HA HB H0 H1
  have HQ : Hid (q < w.heap.size) := World.block_lt_of_cell? w _ h0
  clear hx hy h0 h1
  go_enter Try.func24, Try.ntmps24
  go_wp2_with fail
  go_loopg [3, 11] 2 (fun k v3 i wr => ∃ j s : Nat, j + k = 2 ∧ i = .int .i64 (j : Int) ∧ v3 = .int .i64 (s : Int) ∧ w = wr ∧ (j = 0 ∧ s = 0 ∨ j = 1 ∧ s = xs.length ∨ j = 2 ∧ s = xs.length + ys.length))
  case atStart => exact ⟨0, 0, by omega, rfl, rfl, rfl, .inl ⟨rfl, rfl⟩⟩
  case round =>
    obtain ⟨j, s, hjk, rfl, rfl, rfl, hs⟩ := hrel
    rcases hs with ⟨rfl, rfl⟩ | ⟨rfl, rfl⟩ | ⟨rfl, rfl⟩
    · have e0 := H0.out
      have hw1 : IntKind.i64.wrap (xs.length : Int) = (xs.length : Int) := by have := HX.out; rw [IntKind.wrap_i64]; omega
      have hn : decide ((xs.length : Int) < 0) = false := by simp
      go_wp2_with fail
      go_roundg 1
      case measure => omega
      case rel => exact ⟨1, xs.length, by omega, rfl, rfl, rfl, .inr (.inl ⟨rfl, rfl⟩)⟩
    · have e1 := H1.out
      obtain ⟨t, ht⟩ : ∃ t, t = xs.length + ys.length := ⟨_, rfl⟩
      have hw1 : IntKind.i64.wrap ((xs.length : Int) + ys.length) = (t : Int) := by have := HX.out; have := HY.out; rw [IntKind.wrap_i64]; omega
      have hn : decide ((t : Int) < 0) = false := by simp
      have HT := Lib.hid ht
      clear ht
      go_wp2_with fail
      go_roundg 0
      case measure => omega
      case rel => exact ⟨2, t, by omega, rfl, rfl, rfl, .inr (.inr ⟨rfl, HT.out⟩)⟩
    · obtain ⟨t, ht⟩ : ∃ t, t = xs.length + ys.length := ⟨_, rfl⟩
      rw [← ht]
      have HGR := Lib.hid (grow_w t w (by have := HX.out; have := HY.out; omega))
      have HT := Lib.hid ht
      clear ht hjk
      go_wp2_with fail
      refine HGR.out.mono ?_
      rintro e w1 ⟨v, rfl, ho, hb⟩
      have HO := Lib.hid ho
      have HBW := Lib.hid hb
      clear ho hb HGR
      go_wp2_with fail
      go_loopg [6, 27] 2 (fun k v6 i wz => ∃ (j s : Nat) (zs : List Int), j + k = 2 ∧ i = .int .i64 (j : Int) ∧ wz.ownsRow w.heap.size 2 1 v6 s (zs.map (Value.int .i64)) ∧ Below w.heap.size w wz ∧ (j = 0 ∧ s = 0 ∧ zs = [] ∨ j = 1 ∧ s = xs.length ∧ zs = xs ∨ j = 2 ∧ s = xs.length + ys.length ∧ zs = xs ++ ys))
      case atStart => exact ⟨0, 0, [], by omega, rfl, HO.out, HBW.out, .inl ⟨rfl, rfl, rfl⟩⟩
      case round =>
        clear HO HBW
        obtain ⟨j, s, zs, hjk, rfl, ho, hb, hs⟩ := hrel
        have HO := Lib.hid ho
        have HBW := Lib.hid hb
        clear ho hb
        rcases hs with ⟨rfl, rfl, rfl⟩ | ⟨rfl, rfl, rfl⟩ | ⟨rfl, rfl, rfl⟩
        · have e0 := (HBW.out.cell HQ.out).trans H0.out
          go_wp2_with (at_builtin; refine wpList_append_sln rfl (.tmp 31) (.tmp 32) rfl w.heap.size _ 0 [] rfl HO.out _ xs rfl (HA.out.below HBW.out) (by have := HX.out; omega) HBW.out.size ?_)
          intro v2 w2 hown2 hgrow2
          have HO2 := Lib.hid hown2
          have HB2 := Lib.hid (Below.grown HBW.out hgrow2 HBW.out.size (fun k hk => (HO.out.lt k hk).1))
          clear hown2 hgrow2
          go_wp2_with fail
          go_roundg 1
          case measure => omega
          case rel => exact ⟨1, xs.length, xs, by omega, rfl, by simpa using HO2.out, HB2.out, .inr (.inl ⟨rfl, rfl, rfl⟩)⟩
        · have e1 := (HBW.out.cell HQ.out).trans H1.out
          go_wp2_with (at_builtin; refine wpList_append_sln rfl (.tmp 31) (.tmp 32) rfl w.heap.size _ zs.length zs rfl HO.out _ ys rfl (HB.out.below HBW.out) (by have := HX.out; have := HY.out; omega) HBW.out.size ?_)
          intro v2 w2 hown2 hgrow2
          have HO2 := Lib.hid hown2
          have HB2 := Lib.hid (Below.grown HBW.out hgrow2 HBW.out.size (fun k hk => (HO.out.lt k hk).1))
          clear hown2 hgrow2
          go_wp2_with fail
          go_roundg 0
          case measure => omega
          case rel => exact ⟨2, zs.length + ys.length, zs ++ ys, by omega, rfl, by simpa using HO2.out, HB2.out, .inr (.inr ⟨rfl, rfl, rfl⟩)⟩
        · go_wp2_with fail
          go_ret
          exact ⟨_, rfl, HO.out, HBW.out⟩

end Go.Proofs.Ytnahipfdnadccaa

namespace Go.Proofs.Ytnahipfdnadccaa
open Go.RowKit

def joinS (k : Nat) (g : Nat → Int) : Nat → List Stp
  | 0 => []
  | j + 1 => joinS k g j ++ [⟨k, j, 0, 0, g j⟩]
def joinX (k : Nat) (xa : List Int) (g : Nat → Int) : Nat → List Int
  | 0 => xa
  | j + 1 => if k = 0 then joinX k xa g j ++ [g j] else g j :: joinX k xa g j

theorem joinS_len (k : Nat) (g : Nat → Int) : ∀ j, (joinS k g j).length = j
  | 0 => rfl
  | j + 1 => by simp [joinS, joinS_len k g j]

theorem joinRun (k : Nat) (xa : List Int) (g : Nat → Int) (hk : k = 0 ∨ k = 1) : ∀ j, (versRun (joinS k g j) ([xa], [])).1[j]? = some (joinX k xa g j)
  | 0 => rfl
  | j + 1 => by
    have h1 := joinRun k xa g hk j
    have hl := versRun_len (joinS k g j) ([xa], [])
    rw [joinS_len] at hl
    simp only [List.length_cons, List.length_nil] at hl
    have hm : Stp.make ⟨k, j, 0, 0, g j⟩ (versRun (joinS k g j) ([xa], [])).1 = (joinX k xa g (j + 1), false) := by
      unfold Stp.make
      rw [if_pos (by rw [hl]; rcases hk with rfl | rfl <;> simp [Stp.ok] <;> omega)]
      have : (versRun (joinS k g j) ([xa], [])).1.getD (j : Int).toNat [] = joinX k xa g j := by simp [List.getD, h1]
      simp only [this]
      rcases hk with rfl | rfl <;> rfl
    rw [joinS, versRun_snoc]
    simp only [hm]
    rw [List.getElem?_append_right (by omega), show j + 1 - (versRun (joinS k g j) ([xa], [])).1.length = 0 by omega]
    rfl

theorem joinX0 (xa : List Int) (g : Nat → Int) : ∀ j, joinX 0 xa g j = xa ++ (List.range j).map g
  | 0 => by simp [joinX]
  | j + 1 => by simp [joinX, joinX0 xa g j, List.range_succ]
theorem joinX1 (xa : List Int) (g : Nat → Int) : ∀ j, joinX 1 xa g j = ((List.range j).map g).reverse ++ xa
  | 0 => by simp [joinX]
  | j + 1 => by simp [joinX, joinX1 xa g j, List.range_succ]

theorem back_eq (xa bs : List Int) : joinX 0 xa (fun i => bs.getD i 0) bs.length = xa ++ bs := by
  rw [joinX0]
  congr 1
  apply List.ext_getElem?
  intro i
  by_cases hi : i < bs.length
  · simp [hi, List.getD]
  · simp [hi]
theorem ahead_eq (xa bs : List Int) : joinX 1 xa (fun i => bs.getD (bs.length - 1 - i) 0) bs.length = bs ++ xa := by
  rw [joinX1]
  congr 1
  apply List.ext_getElem?
  intro i
  by_cases hi : i < bs.length
  · have h1 : i < ((List.range bs.length).map fun i => bs.getD (bs.length - 1 - i) 0).length := by simpa using hi
    rw [List.getElem?_reverse h1]
    simp only [List.length_map, List.length_range]
    rw [List.getElem?_map, List.getElem?_range (by omega)]
    simp [List.getD, show bs.length - 1 - (bs.length - 1 - i) = i by omega, hi]
  · simp [hi]

theorem StpW.below {w w' : World} {sv : Value} {steps : List Stp} (h : StpW w sv steps) (b : Below w.heap.size w w') : StpW w' sv steps := by
  rcases h with h | ⟨sb, so, cap, h1, h2, h3⟩
  · exact .inl h
  · exact .inr ⟨sb, so, cap, h1, Nat.lt_of_lt_of_le h2 b.size, fun j s hs i u hu => (b.cell h2).trans (h3 j s hs i u hu)⟩

/-- two values' own blocks are two -/
def Two (u v : Value) : Prop := u.ownBlock = none ∨ u.ownBlock ≠ v.ownBlock
theorem Two.symm {u v : Value} (h : Two u v) : Two v u := by
  rcases h with h | h
  · cases hv : v.ownBlock with
    | none => exact .inl hv
    | some b => exact .inr (by rw [h, hv]; simp)
  · exact .inr fun e => h e.symm
theorem Two.new {u u' v : Value} {N : Nat} (h : Two u v) (h' : u'.ownBlock = u.ownBlock ∨ u'.ownBlock = some N) (hv : ∀ k, v.ownBlock = some k → k < N) : Two u' v := by
  rcases h' with e | e
  · unfold Two; rw [e]; exact h
  · refine .inr fun e2 => ?_
    rw [e] at e2
    have := hv N e2.symm
    omega

end Go.Proofs.Ytnahipfdnadccaa
