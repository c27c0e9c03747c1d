/- set at a leaf in place, append to a list in place where there is room, NewList of one value. Conditions of this file: none.

NewList of one value. Conditions of this file: none.

listAwake. Conditions of this file: none.

ListRun's versions with the room of their slices; slices of slices. Conditions of this file: none. -/
import Derived.Test.YtnahipfdnadccaaEqual
import Derived.Test.YtnahipfdnadccaaListG
namespace Go.Proofs.Ytnahipfdnadccaa
open Go.RowKit

set_option maxRecDepth 100000 in
set_option maxHeartbeats 400000 in
theorem leaf_mut_w (b : Nat) (arr : Array Value) (occ i x y : Int) (j : Nat) (w : World) (hb : bits BinOp.and IntKind.i64 i 31 = j) (hj : j < 32)
    (hblk : w.heap[b]? = some (.cells arr 110 (0, 0))) (ho : arr[32]? = some (.int .u32 occ)) (hy : arr[j]? = some (.int .i64 y)) :
    Calls Try.prog 93 #[.pointer (some ⟨b, 0, none⟩), .int .i64 i, .int .i64 x, .bool true] w fun e w' => e = .returned (.iface 111 (.pointer (some ⟨b, 0, none⟩))) ∧
      w' = ((w.setCell ⟨b, j, none⟩ (.int .i64 x)).setCell ⟨b, 32, none⟩ (.int .u32 (bits BinOp.or IntKind.u32 occ (2 ^ j % 4294967296)))).drew := by
  have cj := cell_at hblk hy
  have fj := frozen_of_row _ _ j _ _ hblk
  have hB := heap_setCell_same w b j _ 110 (.int .i64 x) hblk
  have hc32 : (w.setCell ⟨b, j, none⟩ (.int .i64 x)).cell? ⟨b, 32, none⟩ = some (.int .u32 occ) := by
    rw [cell_of_row _ _ _ _ _ _ hB, Array.getElem?_setIfInBounds_ne (by omega)]; exact ho
  have hf32 : (w.setCell ⟨b, j, none⟩ (.int .i64 x)).frozen? ⟨b, 32, none⟩ = false := frozen_of_row _ _ _ _ _ hB
  have HC := Lib.hid (And.intro hc32 hf32)
  clear hblk hB hc32 hf32 ho hy
  go_enter Try.func93, Try.ntmps93
  go_upto_region 8 with (fail)
  obtain ⟨hc32, hf32⟩ := HC.out
  generalize hW : w.setCell ⟨b, j, none⟩ (.int .i64 x) = W at hc32 hf32 ⊢
  have HW := Lib.hid hW
  clear hW HC cj fj
  refine region_tail 9 (by kernel_rfl) (by kernel_rfl) ?_
  simp only [List.take_succ_cons, List.take_zero, List.drop_succ_cons, List.drop_zero]
  repeat still_step
  refine wpStill_nil ?_
  go_wp2
  go_ret
  exact ⟨rfl, by rw [HW.out]⟩

set_option maxRecDepth 100000 in
set_option maxHeartbeats 1600000 in
/-- append in place, where there is room: given cap and the root's set in place -/
theorem append_mut_w (b p fid t o s c : Nat) (x : Int) (w : World) (Q : World → Nat → World → Prop) (ho : o + s ≤ 1152921504606846976) (hlt : s + o < c)
    (hblk : w.heap[b]? = some (.cells #[.iface t (.pointer (some ⟨p, 0, none⟩)), .int .i64 (o : Int), .int .i64 (s : Int)] 113 (0, 0)))
    (hcap : ∀ w', But (· = b) w w' → w'.heap[b]? = some (.cells #[.iface t (.pointer (some ⟨p, 0, none⟩)), .int .i64 (o : Int), .int .i64 (s : Int)] 113 (0, 0)) →
      Calls Try.prog 71 #[.pointer (some ⟨b, 0, none⟩)] w' fun e w'' => e = .returned (.int .i64 (c : Int)) ∧ w'' = w')
    (h0 : Disp t fid "pub-frond/pub/immutable.set")
    (h4 : ∀ w', But (· = b) w w' → Calls Try.prog fid #[.pointer (some ⟨p, 0, none⟩), .int .i64 ((o : Int) + s), .int .i64 x, .bool true] w' fun e w'' => ∃ q, e = .returned (.iface t (.pointer (some ⟨q, 0, none⟩))) ∧ Q w' q w'' ∧ w''.heap[b]? = w'.heap[b]?) :
    Calls Try.prog 66 #[.pointer (some ⟨b, 0, none⟩), .int .i64 x, .bool true] w fun e w' => e = .returned (.pointer (some ⟨b, 0, none⟩)) ∧ ∃ q W V, But (· = b) w W ∧ Q W q V ∧
      V.heap[b]? = some (.cells #[.iface t (.pointer (some ⟨p, 0, none⟩)), .int .i64 (o : Int), .int .i64 ((s : Int) + 1)] 113 (0, 0)) ∧ w' = V.setCell ⟨b, 0, none⟩ (.iface t (.pointer (some ⟨q, 0, none⟩))) := by
  obtain ⟨h1, h2, h3⟩ := h0
  have H4 := Lib.hid h4; clear h4
  have HC := Lib.hid (hcap _ (But.refl _ w).drew hblk); clear hcap
  have hZ := Lib.hid hblk
  obtain ⟨hd0, hd1, hd2⟩ := head_cells hblk
  have hf2 := head_free hblk 2
  have hw1 : IntKind.i64.wrap ((s : Int) + o) = (s : Int) + o := by rw [IntKind.wrap_i64]; omega
  have hge : decide ((c : Int) ≤ (s : Int) + o) = false := by simp; omega
  clear hblk
  go_enter Try.func66, Try.ntmps66
  go_wp2_with fail
  refine region_still (by kernel_rfl) (by kernel_rfl) ?_
  repeat still_step
  still_call (HC.out)
  repeat still_step
  refine wpStill_nil ?_
  go_wp2
  have hZ2 := Lib.hid (head_set2 hZ.out (.int .i64 ((s : Int) + 1)))
  have hB2 := Lib.hid (((But.refl (· = b) w).setCell (p := ⟨b, 2, none⟩) (.inl rfl) (.int .i64 ((s : Int) + 1))).drew)
  generalize hW2 : (w.setCell ⟨b, 2, none⟩ (.int .i64 ((s : Int) + 1))).drew = V at hZ2 hB2 ⊢
  clear hW2 hZ hd0 hd1 hd2 hf2 hw1 hge HC
  obtain ⟨hd0, hd1, hd2⟩ := head_cells hZ2.out
  have hw1 : IntKind.i64.wrap ((o : Int) + ((s : Int) + 1)) = (o : Int) + ((s : Int) + 1) := by rw [IntKind.wrap_i64]; omega
  have hw2 : IntKind.i64.wrap ((o : Int) + ((s : Int) + 1) - 1) = (o : Int) + s := by rw [IntKind.wrap_i64]; omega
  refine region_fix [0] [1, 2, 3, 4, 5, 6, 7, 8, 9, 10, 11, 12, 13, 14, 15, 16, 17, 18] [19, 20, 21, 22] (by kernel_rfl) (by intro dst v c a w h; cases dst <;> exact h) (by kernel_rfl) ?_
  simp only [opsOf, List.getElem?_toArray, List.getElem?_cons_succ, List.getElem?_cons_zero]
  iterate 1 (refine wpPure_step ?_ rfl (fun W => ?_) ?_; rotate_left 1; · go_simp; try with_reducible rfl)
  refine wpPure_nil ?_
  repeat still_step
  refine wpStill_nil ?_
  go_wp2_with fail
  refine (H4.out _ hB2.out.drew).mono ?_
  rintro e w' ⟨q, rfl, hq, hh⟩
  have hz' : w'.heap[b]? = some (.cells #[.iface t (.pointer (some ⟨p, 0, none⟩)), .int .i64 (o : Int), .int .i64 ((s : Int) + 1)] 113 (0, 0)) := hh.trans hZ2.out
  have hc' := cell_at (j := 0) hz' rfl
  have hf' := head_free hz' 0
  have HQ := Lib.hid hq
  have HZ' := Lib.hid hz'
  clear hq hh hz'
  go_wp2
  go_ret
  exact ⟨rfl, q, _, w', hB2.out.drew, HQ.out, HZ'.out, rfl⟩

end Go.Proofs.Ytnahipfdnadccaa

namespace Go.Proofs.Ytnahipfdnadccaa
open Go.RowKit

/-- the one value's list, behind the append in place -/
def One (w : World) (x : Int) (w' : World) : Prop := IsList w' (.pointer (some ⟨w.heap.size + 1, 0, none⟩)) 1 [x] ∧ Below w.heap.size w w'

theorem append_one (w : World) (x : Int) : Calls Try.prog 66 #[.pointer (some ⟨w.heap.size + 1, 0, none⟩), .int .i64 x, .bool true] (fresh w) fun e w' => (∃ v, e = .returned v) ∧ One w x w' := by
  have hp := fresh_leaf w
  have hne : w.heap.size ≠ w.heap.size + 1 := by omega
  refine (append_mut_w (w.heap.size + 1) w.heap.size 93 111 0 0 1 x (fresh w) (fun w' q w'' => q = w.heap.size ∧ But (· = w.heap.size) w' w'' ∧ ∃ (arr : Array Value) (occ : Int), w''.heap[w.heap.size]? = some (.cells arr 110 (0, 0)) ∧ arr.size = 33 ∧
      arr[32]? = some (.int .u32 occ) ∧ 0 ≤ occ ∧ occ < 4294967296 ∧ arr[0]? = some (.int .i64 x) ∧ ∀ k, k < 32 → ∃ y, arr[k]? = some (.int .i64 y)) (by omega) (by omega) (fresh_head w) (fun w' hb hh => ?_) disp_set0 (fun w' hb => ?_)).mono ?_
  · have hl : w'.heap[w.heap.size]? = some (.cells (zleaf 0).toArray 110 (0, 0)) := hb.at hp hne
    refine (cap_any (n := 0) (d := 0) (o := 0) (xs := []) ⟨w.heap.size, hh, ⟨w.heap.size, (zleaf 0).toArray, 0, rfl, hl, by simp [zleaf_len], by simpa using zleaf_last 0, by omega, by omega, fun k hk => ⟨0, by simpa using zleaf_get 0 k hk, fun y hy => by simp [win] at hy⟩, trivial⟩, by simp [Dep]⟩).mono ?_
    rintro e w'' ⟨rfl, rfl⟩
    exact ⟨rfl, rfl⟩
  · have hl : w'.heap[w.heap.size]? = some (.cells (zleaf 0).toArray 110 (0, 0)) := hb.at hp hne
    refine (leaf_mut_w w.heap.size (zleaf 0).toArray 0 (((0 : Nat) : Int) + ((0 : Nat) : Int)) x 0 0 w' (by decide) (by omega) hl (by simpa using zleaf_last 0) (by simpa using zleaf_get 0 0 (by omega))).mono ?_
    rintro e w'' ⟨rfl, rfl⟩
    have hr := u32_or 0 (2 ^ 0 % 4294967296)
    have h1 := heap_setCell_same w' w.heap.size 0 _ 110 (.int .i64 x) hl
    have h2 := heap_setCell_same _ w.heap.size 32 _ 110 (.int .u32 (bits BinOp.or IntKind.u32 0 (2 ^ 0 % 4294967296))) h1
    refine ⟨w.heap.size, rfl, ⟨rfl, (((But.refl (· = w.heap.size) w').setCell (p := ⟨w.heap.size, 0, none⟩) (.inl rfl) _).setCell (p := ⟨w.heap.size, 32, none⟩) (.inl rfl) _).drew, _, _, h2, by simp [zleaf_len], ?_, hr.1, hr.2, ?_, ?_⟩, ?_⟩
    · rw [Array.getElem?_setIfInBounds_self_of_lt (by simp [zleaf_len])]
    · rw [Array.getElem?_setIfInBounds_ne (by omega), Array.getElem?_setIfInBounds_self_of_lt (by simp [zleaf_len])]
    · intro k hk
      rw [Array.getElem?_setIfInBounds_ne (by omega)]
      by_cases e : k = 0
      · subst e
        exact ⟨x, by rw [Array.getElem?_setIfInBounds_self_of_lt (by simp [zleaf_len])]⟩
      · rw [Array.getElem?_setIfInBounds_ne (fun h => e h.symm)]
        exact ⟨0, by simpa using zleaf_get 0 k hk⟩
    · show (((w'.setCell _ _).setCell _ _).drew).heap[_]? = _
      rw [heap_drew, heap_setCell_other _ _ _ _ (by show w.heap.size + 1 ≠ w.heap.size; omega), heap_setCell_other _ _ _ _ (by show w.heap.size + 1 ≠ w.heap.size; omega)]
  · rintro e w' ⟨rfl, q, W, V, hW, ⟨rfl, hV, arr, occ, a1, a2, a3, a4, a5, a6, a7⟩, hh, rfl⟩
    have hfin := heap_setCell_same V (w.heap.size + 1) 0 _ 113 (.iface 111 (.pointer (some ⟨w.heap.size, 0, none⟩))) hh
    have hleaf : (V.setCell ⟨w.heap.size + 1, 0, none⟩ (.iface 111 (.pointer (some ⟨w.heap.size, 0, none⟩)))).heap[w.heap.size]? = some (.cells arr 110 (0, 0)) := by
      rw [heap_setCell_other _ _ _ _ (by show w.heap.size ≠ w.heap.size + 1; omega)]; exact a1
    refine ⟨⟨_, rfl⟩, ⟨w.heap.size + 1, 0, 0, rfl, w.heap.size, hfin, ⟨w.heap.size, arr, occ, rfl, hleaf, a2, a3, a4, a5, fun k hk => ?_, trivial⟩, by simp [Dep]⟩, ?_⟩
    · by_cases e : k = 0
      · subst e
        exact ⟨x, a6, fun y hy => by simp [win] at hy; exact hy.symm⟩
      · obtain ⟨y, hy⟩ := a7 k hk
        refine ⟨y, hy, fun z hz => ?_⟩
        simp only [win, Nat.zero_le, if_true, Nat.sub_zero] at hz
        rw [List.getElem?_eq_none (by simp; omega)] at hz
        cases hz
    · have h1 : But (fun k => w.heap.size ≤ k) w (fresh w) := (But.of_below (fresh_below w))
      have h2 : But (fun k => w.heap.size ≤ k) (fresh w) W := hW.wider fun k _ hk => by subst hk; omega
      have h3 : But (fun k => w.heap.size ≤ k) W V := hV.wider fun k _ hk => by subst hk; exact Nat.le_refl _
      exact (((h1.trans h2).trans h3).setCell (p := ⟨w.heap.size + 1, 0, none⟩) (.inl (by show w.heap.size ≤ w.heap.size + 1; omega)) _).below (Nat.le_refl _) (fun _ h => h)

set_option maxRecDepth 100000 in
set_option maxHeartbeats 800000 in
theorem new1 (g o cap : Nat) (x : Int) (w : World) (hc : w.cell? ⟨g, o, none⟩ = some (.int .i64 x)) : Calls Try.prog 55 #[.slice (some ⟨g, o, none⟩) 1 cap] w (ListPost w 1 [x]) := by
  have hc' : (fresh w).cell? ⟨g, o, none⟩ = some (.int .i64 x) := ((fresh_below w).cell (World.block_lt_of_cell? w _ hc)).trans hc
  have HA := Lib.hid (append_one w x)
  go_enter Try.func55, Try.ntmps55
  go_wp2_with fail
  change Code.wp _ _ _ _ (fresh w)
  go_loopg [5, 13] 1 (fun k v5 v wr => (k = 1 ∧ v = .int .i64 0 ∧ wr = fresh w) ∨ (k = 0 ∧ v = .int .i64 1 ∧ One w x wr))
  case atStart => exact .inl ⟨rfl, rfl, rfl⟩
  case round =>
    rcases hrel with ⟨rfl, rfl, rfl⟩ | ⟨rfl, rfl, h⟩
    · generalize hF : fresh w = F at *
      go_wp2_with fail
      refine HA.out.mono ?_
      rintro e w' ⟨⟨v, rfl⟩, h⟩
      have HO := Lib.hid h
      clear h
      go_wp2_with fail
      go_roundg 0
      case measure => omega
      case rel => exact .inr ⟨rfl, rfl, HO.out⟩
    · have HO := Lib.hid h
      clear h
      go_wp2_with fail
      go_ret
      exact ⟨_, rfl, HO.out.1, HO.out.2⟩

end Go.Proofs.Ytnahipfdnadccaa

namespace Go.Proofs.Ytnahipfdnadccaa
open Go.RowKit

/-- l is a slice of slices that read vs -/
def Outer (w : World) (l : Value) (vs : List (List Int)) : Prop :=
  ∃ g cap, l = .slice (some ⟨g, 0, none⟩) vs.length cap ∧ ∀ (i : Nat) (xs : List Int), vs[i]? = some xs → ∃ a c, w.cell? ⟨g, i, none⟩ = some (.slice a xs.length c) ∧ SlV w (.slice a xs.length c) (xs.map (Value.int .i64))

theorem Rows2.outer {w : World} {B : Nat} {l : Value} {vs : List (List Int)} (h : Rows2 w B l vs) (hne : vs ≠ []) : Outer w l vs := by
  obtain ⟨us, h1, h2, h3⟩ := h
  rcases h1.2 with ⟨_, h0⟩ | ⟨g, cap, cur, rfl, _⟩
  · exact absurd (List.eq_nil_of_length_eq_zero h0) hne
  · refine ⟨g, cap, rfl, fun i xs hi => ?_⟩
    have hlt : i < us.length := by
      rw [h2]
      exact (List.getElem?_eq_some_iff.1 hi).1
    obtain ⟨ys, h4, h5⟩ := h3 i us[i] (List.getElem?_eq_getElem hlt)
    rw [hi] at h4
    cases h4
    have hs := SlV.of_own h5.1
    obtain ⟨a, c, h6, h7⟩ := hs
    rw [List.length_map] at h6
    have hc := h1.cells (g := g) rfl i us[i] (List.getElem?_eq_getElem hlt)
    rw [Addr.add_lit, Nat.zero_add, h6] at hc
    exact ⟨a, c, hc, a, c, by rw [List.length_map], h7⟩

theorem Outer.below {w w' : World} {l : Value} {vs : List (List Int)} (h : Outer w l vs) (s : Below w.heap.size w w') : Outer w' l vs := by
  obtain ⟨g, cap, h1, h2⟩ := h
  refine ⟨g, cap, h1, fun i xs hi => ?_⟩
  obtain ⟨a, c, h3, h4⟩ := h2 i xs hi
  exact ⟨a, c, (s.cell (World.block_lt_of_cell? w _ h3)).trans h3, h4.below s⟩

/-- a slice that is built -/
theorem SlV.new (w : World) (t : TypeId) (cs : List Value) (_h : cs ≠ []) : SlV (w.alloc (.cells cs.toArray t)) (.slice (some ⟨w.heap.size, 0, none⟩) cs.length cs.length) cs := by
  refine ⟨_, _, rfl, fun i c hc => ⟨w.heap.size, 0, rfl, ?_⟩⟩
  have hb := heap_alloc_last w (.cells cs.toArray t)
  rw [Nat.zero_add]
  exact cell_at hb (by simpa using hc)

/-- ListRun, given what NewList makes of the first values -/
theorem listRun_any (w : World) (v0 : Value) (n0 : Nat) (xs0 : List Int) (steps : List Stp) (sb so cap : Nat)
    (hsb : sb < w.heap.size) (hsteps : ∀ j s, steps[j]? = some s → ∀ i u, s.cells[i]? = some u → w.cell? ⟨sb, so + j * 5 + i, none⟩ = some u)
    (hnew : Calls Try.prog 55 #[v0] w (ListPost w n0 xs0)) (hn : n0 + 100000 * (steps.length + 1) < 33554431) (hG : Glob w) :
    Calls Try.prog 15 #[v0, .slice (some ⟨sb, so, none⟩) steps.length cap] w fun e w' => ∃ l p, e = .returned (.tuple #[l, p]) ∧ Below w.heap.size w w' ∧ Outer w' l (versRun steps ([xs0], [])).1 ∧
      SlV w' p ((versRun steps ([xs0], [])).2.map Value.bool) := by
  have hl := versRun_len steps ([xs0], [])
  have hk : 100000 * steps.length ≤ 100000 * (steps.length + 1) := Nat.mul_le_mul_left _ (by omega)
  have hq : steps.length ≤ 100000 * steps.length := Nat.le_mul_of_pos_left _ (by decide)
  have h8 : n0 + 100000 * steps.length < 33554432 := Nat.lt_of_le_of_lt (Nat.add_le_add_left hk _) (Nat.lt_trans hn (by decide))
  have h9 : (versRun steps ([xs0], [])).1.length ≤ 1000000 := by
    rw [hl]
    have h10 : 100000 * (steps.length + 1) < 33554431 := Nat.lt_of_le_of_lt (Nat.le_add_left _ _) hn
    have : steps.length + 1 < 1000 := by
      rcases Nat.lt_or_ge (steps.length + 1) 1000 with h | h
      · exact h
      · exfalso
        have := Nat.mul_le_mul_left 100000 h
        have h11 : 100000 * 1000 < 33554431 := Nat.lt_of_le_of_lt this h10
        exact absurd h11 (by decide)
    simp only [List.length_cons, List.length_nil]
    omega
  refine (run_w w v0 _ (n0 + 100000 * steps.length) (versRun steps ([xs0], [])).1 (versRun steps ([xs0], [])).2 h8 h9 (vers_w w v0 n0 xs0 _ steps sb so cap rfl hsb hsteps hnew hn hG)).mono ?_
  rintro e w' ⟨l, p, rfl, h1, h2, h3⟩
  exact ⟨l, p, rfl, h1, h2.outer (by intro e; rw [e] at hl; simp at hl), SlV.of_own h3⟩

theorem flat_get : ∀ (steps : List Stp) (j : Nat) (s : Stp), steps[j]? = some s → ∀ (i : Nat) (u : Value), s.cells[i]? = some u → (steps.flatMap Stp.cells)[j * 5 + i]? = some u
  | [], j, s, h, i, u, hu => by simp at h
  | a :: l, 0, s, h, i, u, hu => by
    simp only [List.getElem?_cons_zero, Option.some.injEq] at h
    subst h
    have hi : i < a.cells.length := (List.getElem?_eq_some_iff.1 hu).1
    rw [List.flatMap_cons, Nat.zero_mul, Nat.zero_add, List.getElem?_append_left hi]
    exact hu
  | a :: l, j + 1, s, h, i, u, hu => by
    rw [List.getElem?_cons_succ] at h
    have hl : a.cells.length = 5 := rfl
    rw [List.flatMap_cons, List.getElem?_append_right (by omega), show (j + 1) * 5 + i - a.cells.length = j * 5 + i by omega]
    exact flat_get l j s h i u hu

theorem steps_at {w : World} {b : Nat} {steps : List Stp} (h : w.heap[b]? = some (.cells (steps.flatMap Stp.cells).toArray 29 (0, 0))) :
    ∀ j s, steps[j]? = some s → ∀ i u, s.cells[i]? = some u → w.cell? ⟨b, 0 + j * 5 + i, none⟩ = some u := fun j s hs i u hu => by
  rw [Nat.zero_add]
  exact cell_at h (by simpa using flat_get steps j s hs i u hu)

set_option maxRecDepth 100000 in
set_option maxHeartbeats 800000 in
theorem awake (w : World) (hG : Glob w) : Calls Try.prog 17 #[] w fun e w' => e = .returned (.bool true) ∧ Below w.heap.size w w' := by
  have HG := Lib.hid hG
  clear hG
  go_enter Try.func17, Try.ntmps17
  go_wp2_with fail
  have hb0 : Below w.heap.size w (w.alloc (.cells #[.int .i64 1] 2)) := (Below.refl _ _).alloc (Nat.le_refl _) _
  have hb1 : Below w.heap.size w ((w.alloc (.cells #[.int .i64 1] 2)).alloc (.cells (([⟨0, 0, 0, 0, 2⟩, ⟨2, 0, 5, 0, 0⟩] : List Stp).flatMap Stp.cells).toArray 29)) := hb0.alloc (by simp) _
  have hst := heap_alloc_last (w.alloc (.cells #[.int .i64 1] 2)) (.cells (([⟨0, 0, 0, 0, 2⟩, ⟨2, 0, 5, 0, 0⟩] : List Stp).flatMap Stp.cells).toArray 29)
  have hv0 : ((w.alloc (.cells #[.int .i64 1] 2)).alloc (.cells (([⟨0, 0, 0, 0, 2⟩, ⟨2, 0, 5, 0, 0⟩] : List Stp).flatMap Stp.cells).toArray 29)).cell? ⟨w.heap.size, 0, none⟩ = some (.int .i64 1) := by
    refine cell_at ((Below.heap_alloc _ _ _ (by simp)).trans (heap_alloc_last w _)) rfl
  have hsz : (w.alloc (.cells #[.int .i64 1] 2)).heap.size = w.heap.size + 1 := by simp
  rw [hsz] at hst
  have hrun := listRun_any _ (.slice (some ⟨w.heap.size, 0, none⟩) 1 1) 1 [1] [⟨0, 0, 0, 0, 2⟩, ⟨2, 0, 5, 0, 0⟩] (w.heap.size + 1) 0 2 (lt_of_block hst) (steps_at hst) (new1 _ _ 1 1 _ hv0) (by decide) (HG.out.stay (Stay.of_below hb1))
  have hvs : (versRun [⟨0, 0, 0, 0, 2⟩, ⟨2, 0, 5, 0, 0⟩] ([[1]], [])) = ([[1], [1, 2], [1]], [false, true]) := by decide
  rw [hvs] at hrun
  have HRUN := Lib.hid hrun
  have HB1 := Lib.hid hb1
  clear hb0 hb1 hst hv0 hsz hrun hvs
  change Calls Try.prog 15 _ ((w.alloc (.cells #[.int .i64 1] 2)).alloc (.cells (([⟨0, 0, 0, 0, 2⟩, ⟨2, 0, 5, 0, 0⟩] : List Stp).flatMap Stp.cells).toArray 29)) _
  refine HRUN.out.mono ?_
  clear HRUN
  rintro e w2 ⟨l, p, rfl, hb, ⟨g, cap, rfl, ho⟩, ⟨pa, pc, rfl, hp⟩⟩
  have HB2 := Lib.hid (HB1.out.trans (hb.mono HB1.out.size))
  obtain ⟨a0, c0, hc0, hs0⟩ := ho 0 [1] rfl
  obtain ⟨a1, c1, hc1, hs1⟩ := ho 1 [1, 2] rfl
  have HP : Hid (SlV w2 (.slice pa 2 pc) ([false, true].map Value.bool)) := ⟨pa, pc, rfl, hp⟩
  have HS0 := Lib.hid hs0
  have HS1 := Lib.hid hs1
  clear HB1 hb ho hp hs0 hs1
  simp only [List.length_cons, List.length_nil, Nat.zero_add, Nat.reduceAdd, List.map_cons, List.map_nil] at hc0 hc1 HS0 HS1 HP ⊢
  go_wp2_with fail
  have ha : Below w2.heap.size w2 (w2.alloc (.cells #[.int .i64 1] 2)) := (Below.refl _ _).alloc (Nat.le_refl _) _
  refine (equal_ints (xs := [1]) (ys := [1]) (HS0.out.below ha) (SlV.new w2 2 [.int .i64 1] (by simp)) (by decide)).mono ?_
  rintro e w3 ⟨rfl, hs⟩
  have hb3 : Below w2.heap.size w2 w3 := ha.trans (hs.below _)
  have HB3 := Lib.hid (HB2.out.trans (hb3.mono HB2.out.size))
  have HS1' := Lib.hid (HS1.out.below hb3)
  have HP' := Lib.hid (HP.out.below hb3)
  have hc1' := (hb3.cell (World.block_lt_of_cell? w2 _ hc1)).trans hc1
  clear ha hs hb3 hc0 hc1 HS0 HS1 HP HB2
  have hd : decide (([1] : List Int) = [1]) = true := by decide
  rw [hd]
  go_wp2_with fail
  have ha : Below w3.heap.size w3 (w3.alloc (.cells #[.int .i64 1, .int .i64 2] 2)) := (Below.refl _ _).alloc (Nat.le_refl _) _
  refine (equal_ints (xs := [1, 2]) (ys := [1, 2]) (HS1'.out.below ha) (SlV.new w3 2 [.int .i64 1, .int .i64 2] (by simp)) (by decide)).mono ?_
  rintro e w4 ⟨rfl, hs⟩
  have hb4 : Below w3.heap.size w3 w4 := ha.trans (hs.below _)
  have HB4 := Lib.hid (HB3.out.trans (hb4.mono HB3.out.size))
  have HP4 := Lib.hid (HP'.out.below hb4)
  clear ha hs hb4 hc1' HS1' HP' HB3 hd
  have hd : decide (([1, 2] : List Int) = [1, 2]) = true := by decide
  rw [hd]
  go_wp2_with fail
  have ha : Below w4.heap.size w4 (w4.alloc (.cells #[.bool false, .bool true] 4)) := (Below.refl _ _).alloc (Nat.le_refl _) _
  refine (equal_bools (xs := [false, true]) (ys := [false, true]) (HP4.out.below ha) (SlV.new w4 4 [.bool false, .bool true] (by simp)) (by decide)).mono ?_
  rintro e w5 ⟨rfl, hs⟩
  have HB5 := Lib.hid ((HB4.out.alloc HB4.out.size (.cells #[.bool false, .bool true] 4)).trans ((hs.below w.heap.size)))
  clear ha hs HP4 HB4 hd
  have hd : decide (([false, true] : List Bool) = [false, true]) = true := by decide
  rw [hd]
  go_wp2_with fail
  go_ret
  exact ⟨rfl, HB5.out⟩

end Go.Proofs.Ytnahipfdnadccaa

namespace Go.Proofs.Ytnahipfdnadccaa
open Go.RowKit

/-- l is a slice of slices that read vs, each with room for what it has -/
def OuterC (w : World) (l : Value) (vs : List (List Int)) : Prop :=
  ∃ g cap, l = .slice (some ⟨g, 0, none⟩) vs.length cap ∧ ∀ (i : Nat) (xs : List Int), vs[i]? = some xs → ∃ a c, w.cell? ⟨g, i, none⟩ = some (.slice a xs.length c) ∧ SlV w (.slice a xs.length c) (xs.map (Value.int .i64)) ∧ xs.length ≤ c

theorem Rows2.outerC {w : World} {B : Nat} {l : Value} {vs : List (List Int)} (h : Rows2 w B l vs) (hne : vs ≠ []) : OuterC w l vs := by
  obtain ⟨us, h1, h2, h3⟩ := h
  rcases h1.2 with ⟨_, h0⟩ | ⟨g, cap, cur, rfl, _⟩
  · exact absurd (List.eq_nil_of_length_eq_zero h0) hne
  · refine ⟨g, cap, rfl, fun i xs hi => ?_⟩
    have hlt : i < us.length := by
      rw [h2]
      exact (List.getElem?_eq_some_iff.1 hi).1
    obtain ⟨ys, h4, h5⟩ := h3 i us[i] (List.getElem?_eq_getElem hlt)
    rw [hi] at h4
    cases h4
    have hs := SlV.of_own h5.1
    obtain ⟨a, c, h6, h7⟩ := hs
    rw [List.length_map] at h6
    have hc := h1.cells (g := g) rfl i us[i] (List.getElem?_eq_getElem hlt)
    rw [Addr.add_lit, Nat.zero_add, h6] at hc
    refine ⟨a, c, hc, ⟨a, c, by rw [List.length_map], h7⟩, ?_⟩
    rcases h5.1.2 with ⟨h8, h9⟩ | ⟨g', cap', cur', h8, _, _, h9, _⟩
    · rw [h9]; exact Nat.zero_le _
    · rw [h6] at h8
      simp only [Value.slice.injEq] at h8
      omega

/-- ListRun, given what NewList makes of the first values -/
theorem listRun_c (w : World) (v0 : Value) (n0 : Nat) (xs0 : List Int) (steps : List Stp) (sb so cap : Nat)
    (hsb : sb < w.heap.size) (hsteps : ∀ j s, steps[j]? = some s → ∀ i u, s.cells[i]? = some u → w.cell? ⟨sb, so + j * 5 + i, none⟩ = some u)
    (hnew : Calls Try.prog 55 #[v0] w (ListPost w n0 xs0)) (hn : n0 + 100000 * (steps.length + 1) < 33554431) (hG : Glob w) :
    Calls Try.prog 15 #[v0, .slice (some ⟨sb, so, none⟩) steps.length cap] w fun e w' => ∃ l p, e = .returned (.tuple #[l, p]) ∧ Below w.heap.size w w' ∧ OuterC w' l (versRun steps ([xs0], [])).1 ∧
      SlV w' p ((versRun steps ([xs0], [])).2.map Value.bool) := by
  have hl := versRun_len steps ([xs0], [])
  have hk : 100000 * steps.length ≤ 100000 * (steps.length + 1) := Nat.mul_le_mul_left _ (by omega)
  have h8 : n0 + 100000 * steps.length < 33554432 := Nat.lt_of_le_of_lt (Nat.add_le_add_left hk _) (Nat.lt_trans hn (by decide))
  have h9 : (versRun steps ([xs0], [])).1.length ≤ 1000000 := by
    rw [hl]
    have h10 : 100000 * (steps.length + 1) < 33554431 := Nat.lt_of_le_of_lt (Nat.le_add_left _ _) hn
    have : steps.length + 1 < 1000 := by
      rcases Nat.lt_or_ge (steps.length + 1) 1000 with h | h
      · exact h
      · exfalso
        have := Nat.mul_le_mul_left 100000 h
        have h11 : 100000 * 1000 < 33554431 := Nat.lt_of_le_of_lt this h10
        exact absurd h11 (by decide)
    simp only [List.length_cons, List.length_nil]
    omega
  refine (run_w w v0 _ (n0 + 100000 * steps.length) (versRun steps ([xs0], [])).1 (versRun steps ([xs0], [])).2 h8 h9 (vers_w w v0 n0 xs0 _ steps sb so cap rfl hsb hsteps hnew hn hG)).mono ?_
  rintro e w' ⟨l, p, rfl, h1, h2, h3⟩
  exact ⟨l, p, rfl, h1, h2.outerC (by intro e; rw [e] at hl; simp at hl), SlV.of_own h3⟩

theorem und32 : Try.prog.underlying 32 = some (.slice (Try.prog.elem 32)) := by kernel_rfl
theorem size32 (w : World) : (sizeOf (Try.prog.elem 32)).run Try.prog w = .ok 1 w := by kernel_rfl

/-- a slice of a slice of whole numbers -/
theorem cut_at {w : World} {a : Option Addr} {n c lo hi : Nat} {cs : List Value} (h : SlV w (.slice a n c) cs) (hc : cs.length ≤ c) (h1 : lo ≤ hi) (h2 : hi ≤ cs.length) :
    ∃ a' c', (∀ w', (Instr.sliceAt 32 (.slice a n c) (some (.int .i64 (lo : Int))) (some (.int .i64 (hi : Int))) none).run Try.prog w' = .ok (.slice a' (hi - lo) c') w') ∧ SlV w (.slice a' (hi - lo) c') ((cs.drop lo).take (hi - lo)) := by
  refine ⟨if c = lo then a else a.map (·.add (lo * 1)), c - lo, fun w' => ?_, ?_⟩
  · rw [run_sliceAt_slice w' 32 _ _ _ _ und32, run_slice_lh w' 32 a n c und32 .i64 .i64 lo hi (by omega) (by omega) (by omega), size32]
    simp only [Result.andThen_ok, sliced, Int.toNat_natCast]
  · obtain ⟨a0, c0, h3, h4⟩ := h
    simp only [Value.slice.injEq] at h3
    obtain ⟨rfl, -, rfl⟩ := h3
    have hl : ((cs.drop lo).take (hi - lo)).length = hi - lo := by simp; omega
    refine ⟨_, _, by rw [hl], fun i v hv => ?_⟩
    rw [List.getElem?_take] at hv
    split at hv
    · rename_i hi'
      rw [List.getElem?_drop] at hv
      obtain ⟨g, o, rfl, hcell⟩ := h4 _ v hv
      refine ⟨g, o + lo, ?_, by rw [Nat.add_assoc]; exact hcell⟩
      rw [if_neg (by omega), Option.map_some, addr_add, Nat.mul_one]
    · cases hv

end Go.Proofs.Ytnahipfdnadccaa
