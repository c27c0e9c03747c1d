/- An iterator's seek. Conditions of this file: none.

An iterator: Done, Seek, First, Last. Conditions of this file: none.

An iterator: First, Last, Iterator. Conditions of this file: none.

An iterator's steps ahead and back: which of the nodes on the way stay. Conditions of this file: none. -/
import Derived.Test.YtnahipfdnadccaaSliceC
import Derived.Test.YtnahipfdnadccaaBut
import Derived.Test.YtnahipfdnadccaaTree
namespace Go.Proofs.Ytnahipfdnadccaa
open Go.RowKit

/-- where the node of depth k begins in which place P lies -/
def base (P k : Nat) : Nat := P / 32 ^ (k + 1) * 32 ^ (k + 1)

/-- an iterator's block: its list, its index, its depth -/
def ItB (w : World) (ib lb : Nat) (arr : Array Value) (idx : Int) (dep : Nat) : Prop :=
  w.heap[ib]? = some (.cells arr 105 (0, 0)) ∧ arr.size = 67 ∧ arr[0]? = some (.pointer (some ⟨lb, 0, none⟩)) ∧ arr[1]? = some (.int .i64 idx) ∧ arr[66]? = some (.int .i64 (dep : Int)) ∧
    ∀ i, i < 32 → (∃ v, arr[2 + i * 2]? = some v ∧ v.oneCell' = true) ∧ ∃ x, arr[3 + i * 2]? = some (.int .i64 x)

/-- the nodes on the way to place P, down to level m -/
def Way (w : World) (arr : Array Value) (D o P m : Nat) (xs : List Int) : Prop :=
  ∀ i, i ≤ m → ∃ p, arr[2 + i * 2]? = some (.iface (ty (D - i)) (.pointer (some ⟨p, 0, none⟩))) ∧ Node Any w (D - i) (.iface (ty (D - i)) (.pointer (some ⟨p, 0, none⟩))) (fun j => win o xs (base P (D - i) + j))
/-- the places on the way, ahead of level m -/
def Sl (arr : Array Value) (D P m : Nat) : Prop := ∀ i, i < m → arr[3 + i * 2]? = some (.int .i64 ((slot (P : Int) (D - i) : Nat) : Int))

theorem branch_child {w : World} {d p : Nat} {f : Nat → Option Int} {i y : Nat} {x : Int} (h : Node Any w (d + 1) (.iface 122 (.pointer (some ⟨p, 0, none⟩))) f) (hi : i < 32) (hy : y < 32 ^ (d + 1)) (hx : f (i * 32 ^ (d + 1) + y) = some x) :
    ∃ (arr : Array Value) (c : Nat), w.heap[p]? = some (.cells arr 125 (0, 0)) ∧ arr[0]? = some (.int .u64 ((d : Int) + 1)) ∧ arr[1 + i]? = some (.iface (ty d) (.pointer (some ⟨c, 0, none⟩))) ∧
      Node Any w d (.iface (ty d) (.pointer (some ⟨c, 0, none⟩))) (fun j => f (i * 32 ^ (d + 1) + j)) := by
  obtain ⟨b, arr, g1, g2, g3, g4, g5, g6⟩ := h
  simp only [Value.iface.injEq, Value.pointer.injEq, Option.some.injEq, Addr.mk.injEq, true_and, and_true] at g1
  subst g1
  obtain ⟨c, hc, g7⟩ := g5 i hi
  rcases g7 with ⟨rfl, g7⟩ | g7
  · have := g7 y hy
    rw [hx] at this
    cases this
  · obtain ⟨r, rfl⟩ := g7.ptr
    exact ⟨arr, r, g2, by simpa using g4, hc, g7⟩

theorem base_succ (P k : Nat) (h : P < 32 ^ (k + 2)) : base P (k + 1) = 0 := by
  unfold base
  rw [Nat.div_eq_of_lt h, Nat.zero_mul]
/-- the child in which P lies begins where it should -/
theorem base_down (P k : Nat) : base P (k + 1) + slot (P : Int) (k + 1) * 32 ^ (k + 1) = base P k := by
  unfold base slot
  have e : (32 : Nat) ^ (k + 1 + 1) = 32 ^ (k + 1) * 32 := Nat.pow_succ _ _
  have hp := pos32 (k + 1)
  rw [← cast32 (k + 1)]
  have h2 : ((P : Int) / ((32 ^ (k + 1) : Nat) : Int)) = ((P / 32 ^ (k + 1) : Nat) : Int) := by simp
  have h3 : (((P / 32 ^ (k + 1) : Nat) : Int) % 32).toNat = P / 32 ^ (k + 1) % 32 := by omega
  rw [h2, h3, e, ← Nat.div_div_eq_div_mul]
  generalize 32 ^ (k + 1) = M at *
  generalize P / M = q
  have h4 := Nat.div_add_mod q 32
  rw [show q / 32 * (M * 32) = (32 * (q / 32)) * M by rw [Nat.mul_comm M 32, ← Nat.mul_assoc, Nat.mul_comm (q / 32) 32], ← Nat.add_mul, h4]
theorem base_le (P k : Nat) : base P k ≤ P ∧ P < base P k + 32 ^ (k + 1) := by
  unfold base
  have h1 := Nat.div_add_mod P (32 ^ (k + 1))
  have h2 := Nat.mod_lt P (pos32 (k + 1))
  rw [Nat.mul_comm] at h1
  omega

set_option maxRecDepth 100000 in
theorem as122f (p : Nat) (W : World) : Sem.run Try.prog (Instr.typeAssert (Value.iface 111 (Value.pointer (some { block := p, off := 0 }))) 100 122 true) W = .ok (.tuple #[.pointer none, .bool false]) W := by kernel_rfl
set_option maxRecDepth 100000 in
theorem as122t (p : Nat) (W : World) : Sem.run Try.prog (Instr.typeAssert (Value.iface 122 (Value.pointer (some { block := p, off := 0 }))) 100 122 true) W = .ok (.tuple #[.pointer (some ⟨p, 0, none⟩), .bool true]) W := by kernel_rfl
set_option maxRecDepth 100000 in
theorem as111t (p : Nat) (W : World) : Sem.run Try.prog (Instr.typeAssert (Value.iface 111 (Value.pointer (some { block := p, off := 0 }))) 100 111 true) W = .ok (.tuple #[.pointer (some ⟨p, 0, none⟩), .bool true]) W := by kernel_rfl

/-- one cell of a row is written -/
theorem row_set {w : World} {b i : Nat} {arr : Array Value} {t : TypeId} (v : Value) (h : w.heap[b]? = some (.cells arr t (0, 0))) (hi : i < arr.size) :
    ∃ arr' : Array Value, (w.setCell ⟨b, i, none⟩ v).heap[b]? = some (.cells arr' t (0, 0)) ∧ arr'.size = arr.size ∧ arr'[i]? = some v ∧ ∀ j, j ≠ i → arr'[j]? = arr[j]? :=
  ⟨arr.setIfInBounds i v, heap_setCell_same w b i _ t v h, by simp, by simp [hi], fun j hj => Array.getElem?_setIfInBounds_ne (Ne.symm hj)⟩
/-- the nodes ahead stay where other cells are written -/
theorem Way.keep {w w' : World} {arr arr' : Array Value} {D o P m : Nat} {xs : List Int} (h : Way w arr D o P m xs) (hs : Stay w w') (he : ∀ i, i ≤ m → arr'[2 + i * 2]? = arr[2 + i * 2]?) : Way w' arr' D o P m xs := by
  intro i hi
  obtain ⟨p, h1, h2⟩ := h i hi
  exact ⟨p, (he i hi).trans h1, h2.stay hs⟩

/-- the worlds at the loop's head -/
def SeekW (w0 : World) (ib lb n D o P : Nat) (xs : List Int) (i0 : Int) (k : Nat) (w : World) : Prop :=
  ∃ dep arr, dep + k = D ∧ ItB w ib lb arr i0 dep ∧ Way w arr D o P dep xs ∧ Sl arr D P dep ∧ ListAt w lb n D o xs ∧ But (· = ib) w0 w

set_option maxRecDepth 100000 in
set_option maxHeartbeats 1600000 in
theorem seek_w (ib lb n D o dep0 : Nat) (arr0 : Array Value) (xs : List Int) (idx : Nat) (i0 : Int) (w : World) (hx : idx < xs.length) (hl : ListAt w lb n D o xs) (hI : ItB w ib lb arr0 i0 dep0) (hne : ib ≠ lb) (hdep : dep0 ≤ D)
    (hW : Way w arr0 D o (o + idx) dep0 xs) (hS : Sl arr0 D (o + idx) dep0) :
    Calls Try.prog 64 #[.pointer (some ⟨ib, 0, none⟩), .int .i64 (idx : Int)] w fun e w' => e = .returned (.tuple #[]) ∧ But (· = ib) w w' ∧
      ∃ arr', ItB w' ib lb arr' i0 D ∧ Way w' arr' D o (o + idx) D xs ∧ Sl arr' D (o + idx) (D + 1) ∧ ListAt w' lb n D o xs := by
  obtain ⟨P, hP⟩ : ∃ P, P = o + idx := ⟨_, rfl⟩
  rw [← hP] at hW hS ⊢
  have hD7 : D ≤ 7 := hl.choose_spec.2.2.2.2.1
  have hle := hl.choose_spec.2.2.2.1
  have hle2 := pow_le8 hD7
  have hwP : IntKind.i64.wrap ((o : Int) + idx) = (P : Int) := by rw [IntKind.wrap_i64]; omega
  have HPX : Hid (P = o + idx ∧ idx < xs.length) := ⟨hP, hx⟩
  have HPD : Hid (P < 32 ^ (D + 1)) := by show _ < _; omega
  have HD7 := Lib.hid hD7
  have HSt : Hid (SeekW w ib lb n D o P xs i0 (D - dep0) w) := ⟨dep0, arr0, by omega, hI, hW, hS, hl, But.refl _ w⟩
  have HNE := Lib.hid hne
  clear hI hW hS hl hne hdep hP hx hle hle2 hD7
  go_enter Try.func64, Try.ntmps64
  go_wp2_with fail
  go_loopg [] (D - dep0) (fun k wr => SeekW w ib lb n D o P xs i0 k wr)
  case atStart => exact HSt.out
  case round =>
    clear HSt arr0
    obtain ⟨dep, arr, hdk, ⟨hblk, hsz, hc0, hc1, hc66, hall⟩, hW, hS, hl, hb⟩ := hrel
    have HW := Lib.hid hW
    have HSl := Lib.hid hS
    have HL := Lib.hid hl
    have HB := Lib.hid hb
    have HALL := Lib.hid hall
    have hd32 : dep < 32 := by have := HD7.out; omega
    obtain ⟨p, hp, hnode⟩ := hW dep (Nat.le_refl _)
    rw [show D - dep = gk by omega] at hp hnode
    obtain ⟨lp, hlb, hln, hldep⟩ := hl
    obtain ⟨hd0, hd1, hd2⟩ := head_cells hlb
    have k0 := cell_at hblk hc0
    have k66 := cell_at hblk hc66
    have kn := cell_at hblk hp
    obtain ⟨x0, hx0⟩ := (hall dep hd32).2
    have kx : wr.cell? ⟨ib, 2 + dep * 2 + 1, none⟩ = some (.int .i64 x0) := cell_at hblk (by rw [show 2 + dep * 2 + 1 = 3 + dep * 2 by omega]; exact hx0)
    have kf : wr.frozen? ⟨ib, 2 + dep * 2 + 1, none⟩ = false := frozen_of_row _ _ _ _ _ hblk
    have HBLK := Lib.hid hblk
    have HN := Lib.hid hnode
    have hwd : IntKind.i64.wrap ((dep : Int) + 1) = (dep : Int) + 1 := by rw [IntKind.wrap_i64]; omega
    have HC1 := Lib.hid hc1
    clear hW hS hb hall hblk hx0 hnode hlb hln hldep hc1
    have hd32' : (dep : Int) < 32 := by omega
    go_upto_region 0 with (fail)
    refine region_still (by kernel_rfl) (by kernel_rfl) ?_
    repeat still_step
    refine wpStill_nil ?_
    have hgk7 : gk ≤ 7 := by have := HD7.out; omega
    obtain ⟨h1, h2, h3⟩ := disp_ty disp_depth0 disp_depth1 gk
    have hcd : Hid (Calls Try.prog (fn 91 101 gk) #[.pointer (some ⟨p, 0, none⟩)] wr.drew.drew fun e w'' => e = .returned (.int .u64 (gk : Int)) ∧ w'' = wr.drew.drew) := (depth_any (Node.drewn (Node.drewn HN.out))).mono fun e w'' h => ⟨h.1, h.2.symm⟩
    have hw5 : IntKind.u64.wrap ((gk : Int) * 5) = (gk : Int) * 5 := by rw [IntKind.wrap_u64]; omega
    have hw5a : 0 ≤ (gk : Int) * 5 := by omega
    have hw5b : (gk : Int) * 5 ≤ 64 := by omega
    have hw5c : ((gk : Int) * 5).toNat = gk * 5 := by omega
    have hsl := slot_eq (P : Int) gk
    have HSL := Lib.hid (slot_lt (P : Int) gk)
    generalize hs : slot (P : Int) gk = sl at hsl HSL
    have HSLE := Lib.hid hs
    clear hs
    generalize hf : fn 91 101 gk = f1 at h1 h2 h3 hcd
    clear hf
    generalize ht : ty gk = t1 at h1 h2 h3 kn
    have HT := Lib.hid ht
    clear ht
    go_upto_region 1 with (fail)
    refine region_tail 20 (by kernel_rfl) (by kernel_rfl) ?_
    simp only [List.take_succ_cons, List.take_zero, List.drop_succ_cons, List.drop_zero]
    repeat still_step
    still_call hcd.out
    repeat still_step
    refine wpStill_nil ?_
    go_upto_region 2 with (fail)
    obtain ⟨arr1, hr1, hs1, hv1, he1⟩ := row_set (i := 2 + dep * 2 + 1) (.int .i64 (sl : Int)) HBLK.out (by omega)
    have hB1 : But (· = ib) wr (wr.setCell ⟨ib, 2 + dep * 2 + 1, none⟩ (.int .i64 (sl : Int))).drew.drew := (((But.refl (· = ib) wr).setCell (p := ⟨ib, 2 + dep * 2 + 1, none⟩) (.inl rfl) _).drew).drew
    have hr1' : (wr.setCell ⟨ib, 2 + dep * 2 + 1, none⟩ (.int .i64 (sl : Int))).drew.drew.heap[ib]? = some (.cells arr1 105 (0, 0)) := hr1
    generalize hW1 : (wr.setCell ⟨ib, 2 + dep * 2 + 1, none⟩ (.int .i64 (sl : Int))).drew.drew = w1 at hB1 hr1' ⊢
    clear hW1 hr1 k0 k66 kx kf hd0 hd1 hd2 hcd h1 h2 h3
    have hstay : Stay wr w1 := hB1.stay fun b c t fz hb h => by
      subst hb
      rw [HBLK.out] at h
      simp only [Option.some.injEq, Obj.cells.injEq] at h
      rw [← h.2.1]
      decide
    have kn1 : w1.cell? ⟨ib, 2 + dep * 2, none⟩ = some (.iface t1 (.pointer (some ⟨p, 0, none⟩))) := cell_at hr1' ((he1 _ (by omega)).trans (by rw [hp, HT.out]))
    have HB1 := Lib.hid hB1
    have HR1 := Lib.hid (And.intro hr1' (And.intro hs1 (And.intro hv1 he1)))
    have HST := Lib.hid hstay
    clear kn hB1 hr1' hs1 hv1 he1 hstay
    go_upto_region 3 with (fail)
    cases gk with
    | zero =>
      obtain rfl : t1 = 111 := HT.out.symm
      go_wp2_with fail
      rw [as122f]
      go_wp2_with fail
      rw [as111t]
      go_wp2
      refine bodyPost_ret (results_none rfl _ _ _) rfl ?_
      obtain ⟨hr1, hs1, hv1, he1⟩ := HR1.out
      obtain rfl : dep = D := hdk
      refine ⟨rfl, HB.out.trans HB1.out, arr1, ⟨hr1, hs1.trans hsz, (he1 _ (by omega)).trans hc0, (he1 _ (by omega)).trans HC1.out, (he1 _ (by omega)).trans hc66, fun i hi => ?_⟩, HW.out.keep HST.out fun i hi => he1 _ (by omega), fun i hi => ?_, HL.out.stay HST.out⟩
      · obtain ⟨⟨v, q1, q2⟩, q3⟩ := HALL.out i hi
        refine ⟨⟨v, (he1 _ (by omega)).trans q1, q2⟩, ?_⟩
        by_cases hid : i = dep
        · subst hid
          exact ⟨_, by rw [show 3 + i * 2 = 2 + i * 2 + 1 by omega]; exact hv1⟩
        · obtain ⟨x, q3⟩ := q3
          exact ⟨x, (he1 _ (by omega)).trans q3⟩
      · by_cases hid : i = dep
        · subst hid
          rw [Nat.sub_self, HSLE.out, show 3 + i * 2 = 2 + i * 2 + 1 by omega]
          exact hv1
        · exact (he1 _ (by omega)).trans (HSl.out i (by omega))
    | succ k =>
      obtain rfl : t1 = 122 := HT.out.symm
      obtain ⟨q1, q2, q3, q4, q5⟩ := (⟨base_down P k, base_le P k, HPX.out, HSLE.out, HSL.out⟩ : _ ∧ _ ∧ _ ∧ _ ∧ _)
      rw [q4] at q1
      have hfx : (fun j => win o xs (base P (k + 1) + j)) (sl * 32 ^ (k + 1) + (P - base P k)) = some xs[idx] := by
        show win o xs (base P (k + 1) + (sl * 32 ^ (k + 1) + (P - base P k))) = _
        rw [show base P (k + 1) + (sl * 32 ^ (k + 1) + (P - base P k)) = o + idx by omega]
        exact win_get q3.2
      obtain ⟨carr, c, r1, r2, r3, r4⟩ := branch_child (HN.out.stay HST.out) q5 (by omega) hfx
      have HC4 : Hid (Node Any w1 k (.iface (ty k) (.pointer (some ⟨c, 0, none⟩))) fun j => win o xs (base P k + j)) := by
        refine Node.mono k _ _ _ r4 fun j y _ h => ?_
        show win o xs (base P (k + 1) + (sl * 32 ^ (k + 1) + j)) = _
        rw [← h, ← q1, Nat.add_assoc]
      have hkid := cell_at r1 r3
      have HPB : Hid (p ≠ ib) := fun e1 => by
        subst e1
        rw [HR1.out.1] at r1
        simp only [Option.some.injEq, Obj.cells.injEq] at r1
        exact absurd r1.2.1 (by decide)
      have hsl32 : (sl : Int) < 32 := by omega
      have kx1 : w1.cell? ⟨ib, 2 + dep * 2 + 1, none⟩ = some (.int .i64 (sl : Int)) := cell_at HR1.out.1 HR1.out.2.2.1
      clear q1 q2 q3 q4 q5 hfx r1 r2 r3 r4
      go_wp2_with fail
      rw [as122t]
      go_wp2_with fail
      go_region
      clear kx1 hkid kn1 hsl32 hsl HN
      obtain ⟨e, he⟩ : ∃ e, e = dep + 1 := ⟨_, rfl⟩
      have hwe : IntKind.i64.wrap ((dep : Int) + 1) = (e : Int) := by rw [hwd]; omega
      have hei : (e : Int) < 32 := by have := HD7.out; omega
      have HE := Lib.hid he
      have k66 : w1.cell? ⟨ib, 66, none⟩ = some (.int .i64 (dep : Int)) := cell_at HR1.out.1 ((HR1.out.2.2.2 _ (by omega)).trans hc66)
      obtain ⟨⟨v1, z1, z2⟩, x1, z3⟩ := HALL.out e (by omega)
      have ke0 : w1.cell? ⟨ib, 2 + e * 2, none⟩ = some v1 := cell_at HR1.out.1 ((HR1.out.2.2.2 _ (by omega)).trans z1)
      have ke1 : w1.cell? ⟨ib, 2 + e * 2 + 1, none⟩ = some (.int .i64 x1) := cell_at HR1.out.1 ((HR1.out.2.2.2 _ (by omega)).trans (by rw [show 2 + e * 2 + 1 = 3 + e * 2 by omega]; exact z3))
      have fe0 : w1.frozen? ⟨ib, 2 + e * 2, none⟩ = false := frozen_of_row _ _ _ _ _ HR1.out.1
      have fe1 : w1.frozen? ⟨ib, 2 + e * 2 + 1, none⟩ = false := frozen_of_row _ _ _ _ _ HR1.out.1
      clear hwd z1 z3 he
      go_upto_region 6 with (fail)
      refine region_tail 11 (by kernel_rfl) (by kernel_rfl) ?_
      simp only [List.take_succ_cons, List.take_zero, List.drop_succ_cons, List.drop_zero]
      repeat still_step
      refine wpStill_nil ?_
      go_upto_region 7 with (fail)
      obtain ⟨arr2, g1, g2, g3, g4⟩ := row_set (i := 2 + e * 2) (.iface (ty k) (.pointer (some ⟨c, 0, none⟩))) HR1.out.1 (by have := HR1.out.2.1; omega)
      obtain ⟨arr3, m1, m2, m3, m4⟩ := row_set (i := 2 + e * 2 + 1) (.int .i64 0) g1 (by have := HR1.out.2.1; omega)
      have hB2 : But (· = ib) w1 ((w1.setCell ⟨ib, 2 + e * 2, none⟩ (.iface (ty k) (.pointer (some ⟨c, 0, none⟩)))).setCell ⟨ib, 2 + e * 2 + 1, none⟩ (.int .i64 0)).drew.drew := ((((But.refl (· = ib) w1).setCell (p := ⟨ib, 2 + e * 2, none⟩) (.inl rfl) _).setCell (p := ⟨ib, 2 + e * 2 + 1, none⟩) (.inl rfl) _).drew).drew
      have m1' : ((w1.setCell ⟨ib, 2 + e * 2, none⟩ (.iface (ty k) (.pointer (some ⟨c, 0, none⟩)))).setCell ⟨ib, 2 + e * 2 + 1, none⟩ (.int .i64 0)).drew.drew.heap[ib]? = some (.cells arr3 105 (0, 0)) := m1
      clear m1 g1 k66 ke0 ke1 fe0 fe1
      generalize hW2 : ((w1.setCell ⟨ib, 2 + e * 2, none⟩ (.iface (ty k) (.pointer (some ⟨c, 0, none⟩)))).setCell ⟨ib, 2 + e * 2 + 1, none⟩ (.int .i64 0)).drew.drew = w2 at hB2 m1' ⊢
      clear hW2
      have e66 : arr3[66]? = some (.int .i64 (dep : Int)) := (m4 _ (by omega)).trans ((g4 _ (by omega)).trans ((HR1.out.2.2.2 _ (by omega)).trans hc66))
      have k66 : w2.cell? ⟨ib, 66, none⟩ = some (.int .i64 (dep : Int)) := cell_at m1' e66
      have f66 : w2.frozen? ⟨ib, 66, none⟩ = false := frozen_of_row _ _ _ _ _ m1'
      have HB2 := Lib.hid hB2
      have HM := Lib.hid (And.intro m1' (And.intro m2 (And.intro m3 m4)))
      have HG := Lib.hid (And.intro g2 (And.intro g3 g4))
      clear hB2 m1' m2 m3 m4 g2 g3 g4 e66
      go_wp2_with fail
      obtain ⟨arr4, q1, q2, q3, q4⟩ := row_set (i := 66) (.int .i64 (e : Int)) HM.out.1 (by have := HR1.out.2.1; have := HG.out.1; have := HM.out.2.1; omega)
      have hB3 : But (· = ib) w2 (w2.setCell ⟨ib, 66, none⟩ (.int .i64 (e : Int))) := (But.refl (· = ib) w2).setCell (p := ⟨ib, 66, none⟩) (.inl rfl) _
      generalize hW3 : w2.setCell ⟨ib, 66, none⟩ (.int .i64 (e : Int)) = w3 at hB3 q1 ⊢
      clear hW3
      go_roundg k
      case measure => omega
      case rel =>
        have hb3 : But (· = ib) w1 w3 := HB2.out.trans hB3
        have hstay : Stay w1 w3 := hb3.stay fun b c t fz hb h => by
          subst hb
          rw [HR1.out.1] at h
          simp only [Option.some.injEq, Obj.cells.injEq] at h
          rw [← h.2.1]
          decide
        obtain ⟨hr1, hs1, hv1, he1⟩ := HR1.out
        obtain ⟨_, m2, m3, m4⟩ := HM.out
        obtain ⟨g2, g3, g4⟩ := HG.out
        have he := HE.out
        have keep : ∀ j, j ≠ 66 → j ≠ 2 + e * 2 → j ≠ 2 + e * 2 + 1 → j ≠ 2 + dep * 2 + 1 → arr4[j]? = arr[j]? := fun j a1 a2 a3 a4 => (q4 _ a1).trans ((m4 _ a3).trans ((g4 _ a2).trans (he1 _ a4)))
        have kn : arr4[2 + e * 2]? = some (.iface (ty k) (.pointer (some ⟨c, 0, none⟩))) := (q4 _ (by omega)).trans ((m4 _ (by omega)).trans g3)
        have kz : arr4[2 + e * 2 + 1]? = some (.int .i64 0) := (q4 _ (by omega)).trans m3
        have ks : arr4[2 + dep * 2 + 1]? = some (.int .i64 (sl : Int)) := (q4 _ (by omega)).trans ((m4 _ (by omega)).trans ((g4 _ (by omega)).trans hv1))
        refine ⟨e, arr4, by omega, ⟨q1, by omega, (keep _ (by omega) (by omega) (by omega) (by omega)).trans hc0, (keep _ (by omega) (by omega) (by omega) (by omega)).trans HC1.out, q3, fun i hi => ?_⟩, fun i hi => ?_, fun i hi => ?_, (HL.out.stay HST.out).stay hstay, (HB.out.trans HB1.out).trans hb3⟩
        · obtain ⟨⟨v, p1, p2⟩, x, p3⟩ := HALL.out i hi
          by_cases hie : i = e
          · subst hie
            exact ⟨⟨_, kn, rfl⟩, 0, by rw [show 3 + i * 2 = 2 + i * 2 + 1 by omega]; exact kz⟩
          · refine ⟨⟨v, (keep _ (by omega) (by omega) (by omega) (by omega)).trans p1, p2⟩, ?_⟩
            by_cases hid : i = dep
            · subst hid
              exact ⟨_, by rw [show 3 + i * 2 = 2 + i * 2 + 1 by omega]; exact ks⟩
            · exact ⟨x, (keep _ (by omega) (by omega) (by omega) (by omega)).trans p3⟩
        · by_cases hie : i = e
          · subst hie
            rw [show D - i = k by omega]
            exact ⟨c, kn, HC4.out.stay hstay⟩
          · obtain ⟨p', p1, p2⟩ := HW.out i (by omega)
            exact ⟨p', (keep _ (by omega) (by omega) (by omega) (by omega)).trans p1, (p2.stay HST.out).stay hstay⟩
        · by_cases hid : i = dep
          · subst hid
            rw [show D - i = k + 1 by omega, HSLE.out, show 3 + i * 2 = 2 + i * 2 + 1 by omega]
            exact ks
          · exact (keep _ (by omega) (by omega) (by omega) (by omega)).trans (HSl.out i (by omega))

end Go.Proofs.Ytnahipfdnadccaa

namespace Go.Proofs.Ytnahipfdnadccaa
open Go.RowKit

/-- an iterator of a list that stands at idx (one over an end: it is done) -/
def Itr (w : World) (ib lb n D o : Nat) (xs : List Int) (idx : Int) : Prop :=
  ∃ arr dep, ItB w ib lb arr idx dep ∧ ListAt w lb n D o xs ∧ -1 ≤ idx ∧ idx ≤ xs.length ∧ (0 ≤ idx → idx < xs.length → dep = D ∧ Way w arr D o (o + idx.toNat) D xs ∧ Sl arr D (o + idx.toNat) (D + 1))

theorem Itr.ne {w : World} {ib lb n D o : Nat} {xs : List Int} {arr : Array Value} {idx : Int} {dep : Nat} (h : ItB w ib lb arr idx dep) (hl : ListAt w lb n D o xs) : ib ≠ lb := fun e => by
  subst e
  obtain ⟨p, h1, _⟩ := hl
  rw [h.1] at h1
  simp only [Option.some.injEq, Obj.cells.injEq] at h1
  exact absurd h1.2.1 (by decide)
/-- an iterator's block is no part of a list -/
theorem ItB.stay {w w' : World} {ib lb : Nat} {arr : Array Value} {idx : Int} {dep : Nat} (h : ItB w ib lb arr idx dep) (hb : But (· = ib) w w') : Stay w w' := hb.stay fun b c t fz hb h' => by
  subst hb
  rw [h.1] at h'
  simp only [Option.some.injEq, Obj.cells.injEq] at h'
  rw [← h'.2.1]
  decide

/-- is an iterator of len items at idx done? -/
def isDone (idx : Int) (len : Nat) : Bool := decide (idx < 0) || decide ((len : Int) ≤ idx)

set_option maxRecDepth 100000 in
set_option maxHeartbeats 1600000 in
theorem done_w (ib lb : Nat) (arr : Array Value) (idx : Int) (dep n D o : Nat) (xs : List Int) (w : World) (hI : ItB w ib lb arr idx dep) (hl : ListAt w lb n D o xs) :
    Calls Try.prog 36 #[.pointer (some ⟨ib, 0, none⟩)] w fun e w' => e = .returned (.bool (isDone idx xs.length)) ∧ w' = w.drew := by
  obtain ⟨hblk, hsz, hc0, hc1, hc66, hall⟩ := hI
  have k0 := cell_at hblk hc0
  have k1 := cell_at hblk hc1
  have hcd : Hid (Calls Try.prog 61 #[.pointer (some ⟨lb, 0, none⟩)] w.drew fun e w'' => e = .returned (.int .i64 (xs.length : Int)) ∧ w'' = w.drew) :=
    (len_any (w := w.drew) (n := n) (xs := xs) ⟨lb, D, o, rfl, hl.stay fun _ _ _ h _ => h⟩).mono fun e w'' h => ⟨h.1, h.2.symm⟩
  clear hblk hc0 hc1 hc66 hall hl hsz
  by_cases h0 : idx < 0
  · have hd : decide (idx < 0) = true := by simpa using h0
    go_enter Try.func36, Try.ntmps36
    go_wp2_with fail
    refine region_still (by kernel_rfl) (by kernel_rfl) (Veil.out ?_)
    repeat (refine v_step (fun K hK => ?_); go_simp; refine hK _ ?_; clear hK K)
    refine v_nil ⟨?_⟩
    go_wp2
    go_ret
    exact ⟨by simp [isDone, hd], rfl⟩
  · have hd : decide (idx < 0) = false := by simpa using h0
    go_enter Try.func36, Try.ntmps36
    go_wp2_with fail
    refine region_still (by kernel_rfl) (by kernel_rfl) (Veil.out ?_)
    repeat (refine v_step (fun K hK => ?_); go_simp; refine hK _ ?_; clear hK K)
    refine v_step (fun K hK => ?_)
    go_simp
    refine ⟨_, hcd.out, hK _ ?_⟩
    clear hK K
    repeat (refine v_step (fun K hK => ?_); go_simp; refine hK _ ?_; clear hK K)
    refine v_nil ⟨?_⟩
    go_wp2
    go_ret
    exact ⟨by simp [isDone, hd], rfl⟩

set_option maxRecDepth 100000 in
set_option maxHeartbeats 1600000 in
theorem itseek_panics (ib lb : Nat) (arr : Array Value) (i0 : Int) (dep n D o : Nat) (i : Int) (xs : List Int) (w : World) (hI : ItB w ib lb arr i0 dep) (hl : ListAt w lb n D o xs) (hi : i < 0 ∨ (xs.length : Int) ≤ i) :
    Calls Try.prog 43 #[.pointer (some ⟨ib, 0, none⟩), .int .i64 i] w (Threw w) := by
  obtain ⟨hblk, hsz, hc0, hc1, hc66, hall⟩ := hI
  have k0 := cell_at hblk hc0
  have hcd : Hid (Calls Try.prog 61 #[.pointer (some ⟨lb, 0, none⟩)] w fun e w'' => e = .returned (.int .i64 (xs.length : Int)) ∧ w = w'') :=
    len_any (n := n) (xs := xs) ⟨lb, D, o, rfl, hl⟩
  clear hblk hc0 hc1 hc66 hall hl hsz
  by_cases h0 : i < 0
  · have h1 : decide (i < 0) = true := by simp [h0]
    clear hi
    go_enter Try.func43, Try.ntmps43
    go_wp2_with fail
    exact ⟨rfl, rfl, _, rfl⟩
  · have h1 : decide (i < 0) = false := by simp [h0]
    have h2 : decide ((xs.length : Int) ≤ i) = true := by simp; omega
    clear hi
    go_enter Try.func43, Try.ntmps43
    go_wp2_with fail
    refine hcd.out.mono ?_
    rintro e w' ⟨rfl, rfl⟩
    go_wp2_with fail
    exact ⟨rfl, rfl, _, rfl⟩

set_option maxRecDepth 100000 in
set_option maxHeartbeats 1600000 in
theorem itseek_w (ib lb : Nat) (arr : Array Value) (i0 : Int) (dep n D o i : Nat) (xs : List Int) (w : World) (hI : ItB w ib lb arr i0 dep) (hl : ListAt w lb n D o xs) (hi : i < xs.length) :
    Calls Try.prog 43 #[.pointer (some ⟨ib, 0, none⟩), .int .i64 (i : Int)] w fun e w' => e = .returned (.tuple #[]) ∧ Itr w' ib lb n D o xs i ∧ But (· = ib) w w' := by
  have HI := Lib.hid hI
  have HL := Lib.hid hl
  have hne : ¬ ib = lb := Itr.ne hI hl
  obtain ⟨hblk, hsz, hc0, hc1, hc66, hall⟩ := hI
  have k0 := cell_at hblk hc0
  have k1 := cell_at hblk hc1
  have f1 : w.frozen? ⟨ib, 1, none⟩ = false := frozen_of_row _ _ _ _ _ hblk
  have hcd : Hid (Calls Try.prog 61 #[.pointer (some ⟨lb, 0, none⟩)] w fun e w'' => e = .returned (.int .i64 (xs.length : Int)) ∧ w = w'') :=
    len_any (n := n) (xs := xs) ⟨lb, D, o, rfl, hl⟩
  have h1 : decide ((i : Int) < 0) = false := by simp
  have h2 : decide ((xs.length : Int) ≤ (i : Int)) = false := by simp; omega
  clear hblk hc1 hall hl
  go_enter Try.func43, Try.ntmps43
  go_wp2_with fail
  refine hcd.out.mono ?_
  rintro e w' ⟨rfl, rfl⟩
  clear hcd
  go_upto_region 3 with (fail)
  obtain ⟨arr1, r1, s1, v1, e1⟩ := row_set (i := 1) (.int .i64 (i : Int)) HI.out.1 (by omega)
  have hB1 : But (· = ib) w (w.setCell ⟨ib, 1, none⟩ (.int .i64 (i : Int))) := (But.refl (· = ib) w).setCell (p := ⟨ib, 1, none⟩) (.inl rfl) _
  clear k1 f1 h1 h2 k0
  generalize hW1 : w.setCell ⟨ib, 1, none⟩ (.int .i64 (i : Int)) = w1 at r1 hB1 ⊢
  clear hW1
  obtain ⟨lp, hlb, hln, hld⟩ := HL.out.stay (HI.out.stay hB1)
  obtain ⟨hd0, hd1, hd2⟩ := head_cells hlb
  have k0 : w1.cell? ⟨ib, 0, none⟩ = some (.pointer (some ⟨lb, 0, none⟩)) := cell_at r1 ((e1 _ (by omega)).trans hc0)
  obtain ⟨⟨x2, z2, zc⟩, x3, z3⟩ := HI.out.2.2.2.2.2 0 (by omega)
  have k2 : w1.cell? ⟨ib, 2, none⟩ = some x2 := cell_at r1 ((e1 _ (by omega)).trans z2)
  have k3 : w1.cell? ⟨ib, 3, none⟩ = some (.int .i64 x3) := cell_at r1 ((e1 _ (by omega)).trans z3)
  have f2 : w1.frozen? ⟨ib, 2, none⟩ = false := frozen_of_row _ _ _ _ _ r1
  have f3 : w1.frozen? ⟨ib, 3, none⟩ = false := frozen_of_row _ _ _ _ _ r1
  have HB1 := Lib.hid hB1
  have HR1 := Lib.hid (And.intro r1 (And.intro s1 (And.intro v1 e1)))
  have HN := Lib.hid hln
  have HD := Lib.hid hld
  clear hB1 r1 s1 v1 e1 hlb hln hld z2 z3
  refine region_tail 12 (by kernel_rfl) (by kernel_rfl) ?_
  simp only [List.take_succ_cons, List.take_zero, List.drop_succ_cons, List.drop_zero]
  repeat still_step
  refine wpStill_nil ?_
  go_upto_region 4 with (fail)
  obtain ⟨arr2, r2, s2, v2, e2⟩ := row_set (i := 2) (.iface (ty D) (.pointer (some ⟨lp, 0, none⟩))) HR1.out.1 (by have := HR1.out.2.1; omega)
  obtain ⟨arr3, r3, s3, v3, e3⟩ := row_set (i := 3) (.int .i64 0) r2 (by have := HR1.out.2.1; omega)
  have hB3 : But (· = ib) w1 ((w1.setCell ⟨ib, 2, none⟩ (.iface (ty D) (.pointer (some ⟨lp, 0, none⟩)))).setCell ⟨ib, 3, none⟩ (.int .i64 0)).drew := (((But.refl (· = ib) w1).setCell (p := ⟨ib, 2, none⟩) (.inl rfl) _).setCell (p := ⟨ib, 3, none⟩) (.inl rfl) _).drew
  have r3' : ((w1.setCell ⟨ib, 2, none⟩ (.iface (ty D) (.pointer (some ⟨lp, 0, none⟩)))).setCell ⟨ib, 3, none⟩ (.int .i64 0)).drew.heap[ib]? = some (.cells arr3 105 (0, 0)) := r3
  clear k0 k2 k3 f2 f3 hd0 hd1 hd2 r2 r3
  generalize hW3 : ((w1.setCell ⟨ib, 2, none⟩ (.iface (ty D) (.pointer (some ⟨lp, 0, none⟩)))).setCell ⟨ib, 3, none⟩ (.int .i64 0)).drew = w3 at r3' hB3 ⊢
  clear hW3
  have h66 : arr3[66]? = some (.int .i64 (dep : Int)) := (e3 _ (by omega)).trans ((e2 _ (by omega)).trans ((HR1.out.2.2.2 _ (by omega)).trans hc66))
  have k66 := cell_at r3' h66
  have f66 : w3.frozen? ⟨ib, 66, none⟩ = false := frozen_of_row _ _ _ _ _ r3'
  have HR3 := Lib.hid (And.intro r3' (And.intro s3 (And.intro v3 e3)))
  have HE := Lib.hid (And.intro s2 (And.intro v2 e2))
  have HB3 := Lib.hid hB3
  clear r3' s3 v3 e3 s2 v2 e2 hB3 h66
  go_wp2_with fail
  obtain ⟨arr4, r4, s4, v4, e4⟩ := row_set (i := 66) (.int .i64 0) HR3.out.1 (by have := HR1.out.2.1; have := HE.out.1; have := HR3.out.2.1; omega)
  have hB4 : But (· = ib) w3 (w3.setCell ⟨ib, 66, none⟩ (.int .i64 0)) := (But.refl (· = ib) w3).setCell (p := ⟨ib, 66, none⟩) (.inl rfl) _
  clear k66 f66
  generalize hW4 : w3.setCell ⟨ib, 66, none⟩ (.int .i64 0) = w4 at r4 hB4 ⊢
  clear hW4
  obtain ⟨r1, s1, v1, e1⟩ := HR1.out
  obtain ⟨r3, s3, v3, e3⟩ := HR3.out
  obtain ⟨s2, v2, e2⟩ := HE.out
  have hB : But (· = ib) w w4 := (HB1.out.trans HB3.out).trans hB4
  have hst1 : Stay w1 w4 := (HB3.out.trans hB4).stay fun b c t fz hb h => by
    subst hb
    rw [r1] at h
    simp only [Option.some.injEq, Obj.cells.injEq] at h
    rw [← h.2.1]
    decide
  have hl4 := HL.out.stay (HI.out.stay hB)
  have keep : ∀ j, j ≠ 1 → j ≠ 2 → j ≠ 3 → j ≠ 66 → arr4[j]? = arr[j]? := fun j a1 a2 a3 a4 => (e4 _ a4).trans ((e3 _ a3).trans ((e2 _ a2).trans (e1 _ a1)))
  have k2 : arr4[2]? = some (.iface (ty D) (.pointer (some ⟨lp, 0, none⟩))) := (e4 _ (by omega)).trans ((e3 _ (by omega)).trans v2)
  have k3 : arr4[3]? = some (.int .i64 0) := (e4 _ (by omega)).trans v3
  have k1 : arr4[1]? = some (.int .i64 (i : Int)) := (e4 _ (by omega)).trans ((e3 _ (by omega)).trans ((e2 _ (by omega)).trans v1))
  have hI4 : ItB w4 ib lb arr4 (i : Int) 0 := by
    refine ⟨r4, by omega, (keep _ (by omega) (by omega) (by omega) (by omega)).trans hc0, k1, v4, fun j hj => ?_⟩
    obtain ⟨⟨v, q1, q2⟩, x, q3⟩ := HI.out.2.2.2.2.2 j hj
    by_cases hj0 : j = 0
    · subst hj0
      exact ⟨⟨_, k2, rfl⟩, _, k3⟩
    · exact ⟨⟨v, (keep _ (by omega) (by omega) (by omega) (by omega)).trans q1, q2⟩, x, (keep _ (by omega) (by omega) (by omega) (by omega)).trans q3⟩
  have hP : o + i < 32 ^ (D + 1) := by have := HD.out.2.1; omega
  have hW4 : Way w4 arr4 D o (o + i) 0 xs := by
    intro j hj
    obtain rfl : j = 0 := by omega
    refine ⟨lp, k2, ?_⟩
    refine (Node.mono D _ _ _ HN.out fun y z _ h => ?_).stay hst1
    rw [← h]
    show _ = win o xs (base (o + i) D + y)
    rw [show base (o + i) D = 0 by unfold base; rw [Nat.div_eq_of_lt hP, Nat.zero_mul], Nat.zero_add]
  have hd0 : (0 : Nat) ≤ D := Nat.zero_le _
  refine (seek_w ib lb n D o 0 arr4 xs i (i : Int) w4 hi hl4 hI4 hne hd0 hW4 (fun j hj => absurd hj (Nat.not_lt_zero j))).mono ?_
  rintro e w5 ⟨rfl, hb5, arr5, q1, q2, q3, q4⟩
  have HRes : Hid (Itr w5 ib lb n D o xs i ∧ But (· = ib) w w5) := ⟨⟨arr5, D, q1, q4, by omega, by omega, fun _ _ => ⟨rfl, q2, q3⟩⟩, hB.trans hb5⟩
  clear q1 q2 q3 q4 hb5
  go_wp2
  refine bodyPost_end (results_none rfl _ _ _) rfl ?_
  exact ⟨rfl, HRes.out⟩

end Go.Proofs.Ytnahipfdnadccaa

namespace Go.Proofs.Ytnahipfdnadccaa
open Go.RowKit

set_option maxRecDepth 100000 in
set_option maxHeartbeats 1600000 in
theorem itfirst_w (ib lb : Nat) (arr : Array Value) (i0 : Int) (dep n D o : Nat) (xs : List Int) (w : World) (hI : ItB w ib lb arr i0 dep) (hl : ListAt w lb n D o xs) :
    Calls Try.prog 41 #[.pointer (some ⟨ib, 0, none⟩)] w fun e w' => e = .returned (.tuple #[]) ∧ But (· = ib) w w' ∧ ((xs.length = 0 ∧ w' = w) ∨ (0 < xs.length ∧ Itr w' ib lb n D o xs 0)) := by
  have HI := Lib.hid hI
  have HL := Lib.hid hl
  have k0 := cell_at hI.1 hI.2.2.1
  have hcd : Hid (Calls Try.prog 61 #[.pointer (some ⟨lb, 0, none⟩)] w fun e w'' => e = .returned (.int .i64 (xs.length : Int)) ∧ w = w'') :=
    len_any (n := n) (xs := xs) ⟨lb, D, o, rfl, hl⟩
  clear hI hl
  by_cases h0 : xs.length = 0
  · have h1 : ((xs.length : Int) != 0) = false := by rw [h0]; rfl
    go_enter Try.func41, Try.ntmps41
    go_wp2_with fail
    refine hcd.out.mono ?_
    rintro e w' ⟨rfl, rfl⟩
    go_wp2_with fail
    refine bodyPost_end (results_none rfl _ _ _) rfl ?_
    exact ⟨rfl, But.refl _ _, .inl ⟨h0, rfl⟩⟩
  · have h1 : ((xs.length : Int) != 0) = true := bne_iff_ne.2 (by omega)
    have h2 : Hid (0 < xs.length) := by show _ < _; omega
    clear h0
    go_enter Try.func41, Try.ntmps41
    go_wp2_with fail
    refine hcd.out.mono ?_
    rintro e w' ⟨rfl, rfl⟩
    go_wp2_with fail
    refine (itseek_w ib lb arr i0 dep n D o 0 xs w HI.out HL.out h2.out).mono ?_
    rintro e w' ⟨rfl, h3, h4⟩
    have H3 := Lib.hid (And.intro h3 h4)
    clear h3 h4
    go_wp2_with fail
    refine bodyPost_end (results_none rfl _ _ _) rfl ?_
    exact ⟨rfl, H3.out.2, .inr ⟨h2.out, H3.out.1⟩⟩

set_option maxRecDepth 100000 in
set_option maxHeartbeats 1600000 in
theorem itlast_w (ib lb : Nat) (arr : Array Value) (i0 : Int) (dep n D o : Nat) (xs : List Int) (w : World) (hI : ItB w ib lb arr i0 dep) (hl : ListAt w lb n D o xs) :
    Calls Try.prog 42 #[.pointer (some ⟨ib, 0, none⟩)] w fun e w' => e = .returned (.tuple #[]) ∧ But (· = ib) w w' ∧ ((xs.length = 0 ∧ w' = w) ∨ (0 < xs.length ∧ Itr w' ib lb n D o xs ((xs.length - 1 : Nat) : Int))) := by
  have HI := Lib.hid hI
  have HL := Lib.hid hl
  have k0 := cell_at hI.1 hI.2.2.1
  have hcd : Hid (Calls Try.prog 61 #[.pointer (some ⟨lb, 0, none⟩)] w fun e w'' => e = .returned (.int .i64 (xs.length : Int)) ∧ w = w'') :=
    len_any (n := n) (xs := xs) ⟨lb, D, o, rfl, hl⟩
  have hle := hl.choose_spec.2.2.2.1
  have hle2 := pow_le8 hl.choose_spec.2.2.2.2.1
  by_cases h0 : xs.length = 0
  · have h1 : ((xs.length : Int) != 0) = false := by rw [h0]; rfl
    clear hI hl hle hle2
    go_enter Try.func42, Try.ntmps42
    go_wp2_with fail
    refine hcd.out.mono ?_
    rintro e w' ⟨rfl, rfl⟩
    go_wp2_with fail
    refine bodyPost_end (results_none rfl _ _ _) rfl ?_
    exact ⟨rfl, But.refl _ _, .inl ⟨h0, rfl⟩⟩
  · have h1 : ((xs.length : Int) != 0) = true := bne_iff_ne.2 (by omega)
    have h2 : Hid (0 < xs.length) := by show _ < _; omega
    have hw : IntKind.i64.wrap ((xs.length : Int) - 1) = ((xs.length - 1 : Nat) : Int) := by rw [IntKind.wrap_i64]; omega
    clear h0 hI hl hle hle2
    go_enter Try.func42, Try.ntmps42
    go_wp2_with fail
    refine hcd.out.mono ?_
    rintro e w' ⟨rfl, rfl⟩
    go_wp2_with fail
    refine (itseek_w ib lb arr i0 dep n D o (xs.length - 1) xs w HI.out HL.out (by have := h2.out; omega)).mono ?_
    rintro e w' ⟨rfl, h3, h4⟩
    have H3 := Lib.hid (And.intro h3 h4)
    clear h3 h4
    go_wp2_with fail
    refine bodyPost_end (results_none rfl _ _ _) rfl ?_
    exact ⟨rfl, H3.out.2, .inr ⟨h2.out, H3.out.1⟩⟩

set_option maxRecDepth 100000 in
theorem zero105 : ∀ i, i < 32 → Try.zeroCells105[2 + i * 2]? = some .nilIface ∧ Try.zeroCells105[3 + i * 2]? = some (.int .i64 0)
  | 0, _ => ⟨by kernel_rfl, by kernel_rfl⟩
  | 1, _ => ⟨by kernel_rfl, by kernel_rfl⟩
  | 2, _ => ⟨by kernel_rfl, by kernel_rfl⟩
  | 3, _ => ⟨by kernel_rfl, by kernel_rfl⟩
  | 4, _ => ⟨by kernel_rfl, by kernel_rfl⟩
  | 5, _ => ⟨by kernel_rfl, by kernel_rfl⟩
  | 6, _ => ⟨by kernel_rfl, by kernel_rfl⟩
  | 7, _ => ⟨by kernel_rfl, by kernel_rfl⟩
  | 8, _ => ⟨by kernel_rfl, by kernel_rfl⟩
  | 9, _ => ⟨by kernel_rfl, by kernel_rfl⟩
  | 10, _ => ⟨by kernel_rfl, by kernel_rfl⟩
  | 11, _ => ⟨by kernel_rfl, by kernel_rfl⟩
  | 12, _ => ⟨by kernel_rfl, by kernel_rfl⟩
  | 13, _ => ⟨by kernel_rfl, by kernel_rfl⟩
  | 14, _ => ⟨by kernel_rfl, by kernel_rfl⟩
  | 15, _ => ⟨by kernel_rfl, by kernel_rfl⟩
  | 16, _ => ⟨by kernel_rfl, by kernel_rfl⟩
  | 17, _ => ⟨by kernel_rfl, by kernel_rfl⟩
  | 18, _ => ⟨by kernel_rfl, by kernel_rfl⟩
  | 19, _ => ⟨by kernel_rfl, by kernel_rfl⟩
  | 20, _ => ⟨by kernel_rfl, by kernel_rfl⟩
  | 21, _ => ⟨by kernel_rfl, by kernel_rfl⟩
  | 22, _ => ⟨by kernel_rfl, by kernel_rfl⟩
  | 23, _ => ⟨by kernel_rfl, by kernel_rfl⟩
  | 24, _ => ⟨by kernel_rfl, by kernel_rfl⟩
  | 25, _ => ⟨by kernel_rfl, by kernel_rfl⟩
  | 26, _ => ⟨by kernel_rfl, by kernel_rfl⟩
  | 27, _ => ⟨by kernel_rfl, by kernel_rfl⟩
  | 28, _ => ⟨by kernel_rfl, by kernel_rfl⟩
  | 29, _ => ⟨by kernel_rfl, by kernel_rfl⟩
  | 30, _ => ⟨by kernel_rfl, by kernel_rfl⟩
  | 31, _ => ⟨by kernel_rfl, by kernel_rfl⟩
  | n + 32, h => absurd h (by omega)
set_option maxRecDepth 100000 in
theorem size105 : Try.zeroCells105.size = 67 := by kernel_rfl
set_option maxRecDepth 100000 in
theorem ends105 : Try.zeroCells105[1]? = some (.int .i64 0) ∧ Try.zeroCells105[66]? = some (.int .i64 0) := ⟨by kernel_rfl, by kernel_rfl⟩

set_option maxRecDepth 100000 in
set_option maxHeartbeats 1600000 in
/-- List.Iterator: an iterator at the first item -/
theorem iterator_w (lb n D o : Nat) (xs : List Int) (w : World) (hl : ListAt w lb n D o xs) :
    Calls Try.prog 35 #[.pointer (some ⟨lb, 0, none⟩)] w fun e w' => ∃ ib, e = .returned (.pointer (some ⟨ib, 0, none⟩)) ∧ w.heap.size ≤ ib ∧ Below w.heap.size w w' ∧ Itr w' ib lb n D o xs 0 := by
  obtain ⟨arr, harr⟩ : ∃ arr, arr = Try.zeroCells105.setIfInBounds 0 (Value.pointer (some { block := lb, off := 0 })) := ⟨_, rfl⟩
  have hb : (w.alloc (.cells arr 105)).heap[w.heap.size]? = some (.cells arr 105 (0, 0)) := heap_alloc_last w _
  have hB : Below w.heap.size w (w.alloc (.cells arr 105)) := (Below.refl _ _).alloc (Nat.le_refl _) _
  have hl1 := hl.stay (Stay.of_below hB)
  have g : ∀ j, j ≠ 0 → arr[j]? = Try.zeroCells105[j]? := fun j hj => by rw [harr, Array.getElem?_setIfInBounds_ne (Ne.symm hj)]
  have hI1 : ItB (w.alloc (.cells arr 105)) w.heap.size lb arr 0 0 := by
    refine ⟨hb, ?_, ?_, ?_, ?_, fun i hi => ⟨⟨_, (g _ (by omega)).trans (zero105 i hi).1, rfl⟩, _, (g _ (by omega)).trans (zero105 i hi).2⟩⟩
    · rw [harr, Array.size_setIfInBounds]; exact size105
    · rw [harr, Array.getElem?_setIfInBounds_self_of_lt (by rw [size105]; decide)]
    · exact (g _ (by omega)).trans ends105.1
    · exact (g _ (by omega)).trans ends105.2
  have HX := Lib.hid (And.intro hI1 (And.intro hl1 hB))
  clear hI1 hl1 hB hb g
  go_enter Try.func35, Try.ntmps35
  go_wp2_with fail
  rw [← harr]
  clear harr
  refine (itfirst_w w.heap.size lb arr 0 0 n D o xs _ HX.out.1 HX.out.2.1).mono ?_
  rintro e w' ⟨rfl, h1, h2⟩
  have H2 : Hid (Below w.heap.size w w' ∧ Itr w' w.heap.size lb n D o xs 0) := by
    refine ⟨HX.out.2.2.trans (h1.below (by simp) fun k hk => by omega), ?_⟩
    rcases h2 with ⟨h0, rfl⟩ | ⟨_, h2⟩
    · exact ⟨arr, 0, HX.out.1, HX.out.2.1, by omega, by omega, fun _ h => absurd h (by omega)⟩
    · exact h2
  clear h1 h2
  go_wp2
  go_ret
  exact ⟨_, rfl, Nat.le_refl _, H2.out⟩

end Go.Proofs.Ytnahipfdnadccaa

namespace Go.Proofs.Ytnahipfdnadccaa
open Go.RowKit

theorem slot_mod (P k : Nat) : slot (P : Int) k = P / 32 ^ k % 32 := by
  unfold slot
  rw [← cast32 k]
  have h2 : ((P : Int) / ((32 ^ k : Nat) : Int)) = ((P / 32 ^ k : Nat) : Int) := by simp
  rw [h2]
  omega

theorem div_up {P P' m m' : Nat} (h : P' / 32 ^ m = P / 32 ^ m) (hm : m ≤ m') : P' / 32 ^ m' = P / 32 ^ m' := by
  obtain ⟨k, rfl⟩ := Nat.exists_eq_add_of_le hm
  rw [Nat.pow_add, ← Nat.div_div_eq_div_mul, ← Nat.div_div_eq_div_mul, h]

/-- the way to a place that lies in the same node of depth D - m -/
theorem Way.turn {w : World} {arr : Array Value} {D o P P' m : Nat} {xs : List Int} (h : Way w arr D o P m xs) (hm : m ≤ D) (hq : P' / 32 ^ (D - m + 1) = P / 32 ^ (D - m + 1)) : Way w arr D o P' m xs := by
  intro i hi
  obtain ⟨p, h1, h2⟩ := h i hi
  refine ⟨p, h1, ?_⟩
  have : base P' (D - i) = base P (D - i) := by unfold base; rw [div_up hq (by omega)]
  rw [this]
  exact h2
theorem Sl.turn {arr : Array Value} {D P P' m : Nat} (h : Sl arr D P m) (hm : m ≤ D) (hq : P' / 32 ^ (D - m + 1) = P / 32 ^ (D - m + 1)) : Sl arr D P' m := by
  intro i hi
  have := h i hi
  rw [slot_mod] at this ⊢
  rw [div_up hq (by omega)]
  exact this

theorem next_up {P k : Nat} (h : 32 ^ k ∣ P + 1) (hs : slot (P : Int) k = 31) : 32 ^ (k + 1) ∣ P + 1 := by
  rw [slot_mod] at hs
  obtain ⟨q, hq⟩ := h
  have hp := pos32 k
  rw [Nat.pow_succ, hq]
  generalize 32 ^ k = M at *
  have h1 : P / M = q - 1 := by
    have hq0 : 0 < q := Nat.pos_of_ne_zero fun e => by subst e; omega
    obtain ⟨q', rfl⟩ : ∃ q', q = q' + 1 := ⟨q - 1, by omega⟩
    rw [Nat.mul_add, Nat.mul_one] at hq
    refine Nat.div_eq_of_lt_le ?_ ?_
    · rw [Nat.mul_comm, Nat.add_sub_cancel]; omega
    · rw [Nat.mul_comm, Nat.add_sub_cancel, Nat.mul_add, Nat.mul_one]; omega
  rw [h1] at hs
  have hq0 : 0 < q := Nat.pos_of_ne_zero fun e => by subst e; omega
  exact Nat.mul_dvd_mul (Nat.dvd_refl _) (by omega)
theorem next_stop {P k : Nat} (h : 32 ^ k ∣ P + 1) (hs : ¬ slot (P : Int) k = 31) : (P + 1) / 32 ^ (k + 1) = P / 32 ^ (k + 1) := by
  rw [slot_mod] at hs
  obtain ⟨q, hq⟩ := h
  have hp := pos32 k
  rw [Nat.pow_succ, ← Nat.div_div_eq_div_mul, ← Nat.div_div_eq_div_mul, hq, Nat.mul_div_cancel_left _ hp]
  generalize 32 ^ k = M at *
  have hq0 : 0 < q := Nat.pos_of_ne_zero fun e => by subst e; omega
  have h1 : P / M = q - 1 := by
    obtain ⟨q', rfl⟩ : ∃ q', q = q' + 1 := ⟨q - 1, by omega⟩
    rw [Nat.mul_add, Nat.mul_one] at hq
    refine Nat.div_eq_of_lt_le ?_ ?_
    · rw [Nat.mul_comm, Nat.add_sub_cancel]; omega
    · rw [Nat.mul_comm, Nat.add_sub_cancel, Nat.mul_add, Nat.mul_one]; omega
  rw [h1] at hs ⊢
  omega
theorem prev_up {P k : Nat} (h : 32 ^ k ∣ P) (hs : slot (P : Int) k = 0) : 32 ^ (k + 1) ∣ P := by
  rw [slot_mod] at hs
  obtain ⟨q, hq⟩ := h
  have hp := pos32 k
  rw [hq, Nat.mul_div_cancel_left _ hp] at hs
  rw [Nat.pow_succ, hq]
  exact Nat.mul_dvd_mul (Nat.dvd_refl _) (by omega)
theorem prev_stop {P k : Nat} (h : 32 ^ k ∣ P) (hs : ¬ slot (P : Int) k = 0) : (P - 1) / 32 ^ (k + 1) = P / 32 ^ (k + 1) := by
  have hp : 0 < P := Nat.pos_of_ne_zero fun e => by subst e; exact hs (by rw [slot_mod]; simp)
  obtain ⟨R, rfl⟩ : ∃ R, P = R + 1 := ⟨P - 1, by omega⟩
  rw [Nat.add_sub_cancel]
  refine (next_stop h fun e => hs ?_).symm
  have h2 := next_up h e
  rw [slot_mod]
  obtain ⟨q, hq⟩ := h2
  rw [hq, Nat.pow_succ, Nat.mul_assoc, Nat.mul_div_cancel_left _ (pos32 k)]
  omega

/-- the leaf in which a place lies -/
theorem way_leaf {w : World} {arr : Array Value} {D o i : Nat} {xs : List Int} (h : Way w arr D o (o + i) D xs) (hs : Sl arr D (o + i) (D + 1)) (hi : i < xs.length) :
    ∃ (p : Nat) (sl : Nat) (la : Array Value), sl < 32 ∧ arr[2 + D * 2]? = some (.iface 111 (.pointer (some ⟨p, 0, none⟩))) ∧ arr[2 + D * 2 + 1]? = some (.int .i64 (sl : Int)) ∧ w.heap[p]? = some (.cells la 110 (0, 0)) ∧ la[sl]? = some (.int .i64 xs[i]) := by
  obtain ⟨p, h1, h2⟩ := h D (Nat.le_refl _)
  have h3 := hs D (Nat.lt_succ_self _)
  rw [Nat.sub_self] at h1 h2 h3
  obtain ⟨b, la, occ, g1, g2, g3, g4, g5, g6, g7, g8⟩ := h2
  have e : p = b := by simpa [ty] using g1
  subst e
  have hsl := slot_lt (((o + i : Nat)) : Int) 0
  obtain ⟨x, k1, k2⟩ := g7 _ hsl
  have hb : base (o + i) 0 + slot (((o + i : Nat)) : Int) 0 = o + i := by
    rw [slot_mod]
    unfold base
    have := Nat.div_add_mod (o + i) 32
    simp only [Nat.zero_add, Nat.pow_one, Nat.pow_zero, Nat.div_one]
    rw [Nat.mul_comm] at this
    exact this
  have hx := k2 xs[i] (by show win o xs _ = _; rw [hb]; exact win_get hi)
  subst hx
  exact ⟨p, _, la, hsl, h1, by rw [show 2 + D * 2 + 1 = 3 + D * 2 by omega]; exact h3, g2, k1⟩

theorem ItB.set_idx {w : World} {ib lb : Nat} {arr : Array Value} {i0 : Int} {dep : Nat} (i1 : Int) (h : ItB w ib lb arr i0 dep) :
    ∃ arr', ItB (w.setCell ⟨ib, 1, none⟩ (.int .i64 i1)) ib lb arr' i1 dep ∧ ∀ j, j ≠ 1 → arr'[j]? = arr[j]? := by
  obtain ⟨h1, h2, h3, h4, h5, h6⟩ := h
  obtain ⟨arr', r1, r2, r3, r4⟩ := row_set (i := 1) (.int .i64 i1) h1 (by omega)
  refine ⟨arr', ⟨r1, by omega, (r4 _ (by omega)).trans h3, r3, (r4 _ (by omega)).trans h5, fun i hi => ?_⟩, r4⟩
  obtain ⟨⟨v, q1, q2⟩, x, q3⟩ := h6 i hi
  exact ⟨⟨v, (r4 _ (by omega)).trans q1, q2⟩, x, (r4 _ (by omega)).trans q3⟩
theorem ItB.set_dep {w : World} {ib lb : Nat} {arr : Array Value} {i0 : Int} {dep : Nat} (d1 : Nat) (h : ItB w ib lb arr i0 dep) :
    ∃ arr', ItB (w.setCell ⟨ib, 66, none⟩ (.int .i64 (d1 : Int))) ib lb arr' i0 d1 ∧ ∀ j, j ≠ 66 → arr'[j]? = arr[j]? := by
  obtain ⟨h1, h2, h3, h4, h5, h6⟩ := h
  obtain ⟨arr', r1, r2, r3, r4⟩ := row_set (i := 66) (.int .i64 (d1 : Int)) h1 (by omega)
  refine ⟨arr', ⟨r1, by omega, (r4 _ (by omega)).trans h3, (r4 _ (by omega)).trans h4, r3, fun i hi => ?_⟩, r4⟩
  obtain ⟨⟨v, q1, q2⟩, x, q3⟩ := h6 i hi
  exact ⟨⟨v, (r4 _ (by omega)).trans q1, q2⟩, x, (r4 _ (by omega)).trans q3⟩
theorem Sl.keep {arr arr' : Array Value} {D P m : Nat} (h : Sl arr D P m) (he : ∀ i, i < m → arr'[3 + i * 2]? = arr[3 + i * 2]?) : Sl arr' D P m := fun i hi => (he i hi).trans (h i hi)
theorem Way.less {w : World} {arr : Array Value} {D o P m m' : Nat} {xs : List Int} (h : Way w arr D o P m xs) (hm : m' ≤ m) : Way w arr D o P m' xs := fun i hi => h i (by omega)
theorem Sl.less {arr : Array Value} {D P m m' : Nat} (h : Sl arr D P m) (hm : m' ≤ m) : Sl arr D P m' := fun i hi => h i (by omega)

set_option maxRecDepth 100000 in
theorem run_assert111 (p : Nat) (W : World) : Sem.run Try.prog (Instr.typeAssert (Value.iface 111 (Value.pointer (some { block := p, off := 0 }))) 100 111 false) W = .ok (Value.pointer (some { block := p, off := 0 })) W := by kernel_rfl

end Go.Proofs.Ytnahipfdnadccaa
