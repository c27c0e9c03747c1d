/- listAwake. Conditions of this file: none. -/
import Derived.Test.YtnahipfdnadccaaMutB
namespace Go.Proofs.Ytnahipfdnadccaa
open Go.RowKit

/-- l is a slice of slices that read vs -/
def Outer (w : World) (l : Value) (vs : List (List Int)) : Prop :=
  ∃ g cap, l = .slice (some ⟨g, 0, none⟩) vs.length cap ∧ ∀ (i : Nat) (xs : List Int), vs[i]? = some xs → ∃ a c, w.cell? ⟨g, i, none⟩ = some (.slice a xs.length c) ∧ SlV w (.slice a xs.length c) (xs.map (Value.int .i64))

theorem Rows2.outer {w : World} {B : Nat} {l : Value} {vs : List (List Int)} (h : Rows2 w B l vs) (hne : vs ≠ []) : Outer w l vs := by
  obtain ⟨us, h1, h2, h3⟩ := h
  rcases h1.2 with ⟨_, h0⟩ | ⟨g, cap, cur, rfl, _⟩
  · exact absurd (List.eq_nil_of_length_eq_zero h0) hne
  · refine ⟨g, cap, rfl, fun i xs hi => ?_⟩
    have hlt : i < us.length := by
      rw [h2]
      exact (List.getElem?_eq_some_iff.1 hi).1
    obtain ⟨ys, h4, h5⟩ := h3 i us[i] (List.getElem?_eq_getElem hlt)
    rw [hi] at h4
    cases h4
    have hs := SlV.of_own h5.1
    obtain ⟨a, c, h6, h7⟩ := hs
    rw [List.length_map] at h6
    have hc := h1.cells (g := g) rfl i us[i] (List.getElem?_eq_getElem hlt)
    rw [Addr.add_lit, Nat.zero_add, h6] at hc
    exact ⟨a, c, hc, a, c, by rw [List.length_map], h7⟩

theorem Outer.below {w w' : World} {l : Value} {vs : List (List Int)} (h : Outer w l vs) (s : Below w.heap.size w w') : Outer w' l vs := by
  obtain ⟨g, cap, h1, h2⟩ := h
  refine ⟨g, cap, h1, fun i xs hi => ?_⟩
  obtain ⟨a, c, h3, h4⟩ := h2 i xs hi
  exact ⟨a, c, (s.cell (World.block_lt_of_cell? w _ h3)).trans h3, h4.below s⟩

/-- a slice that is built -/
theorem SlV.new (w : World) (t : TypeId) (cs : List Value) (_h : cs ≠ []) : SlV (w.alloc (.cells cs.toArray t)) (.slice (some ⟨w.heap.size, 0, none⟩) cs.length cs.length) cs := by
  refine ⟨_, _, rfl, fun i c hc => ⟨w.heap.size, 0, rfl, ?_⟩⟩
  have hb := heap_alloc_last w (.cells cs.toArray t)
  rw [Nat.zero_add]
  exact cell_at hb (by simpa using hc)

/-- ListRun, given what NewList makes of the first values -/
theorem listRun_any (w : World) (v0 : Value) (n0 : Nat) (xs0 : List Int) (steps : List Stp) (sb so cap : Nat)
    (hsb : sb < w.heap.size) (hsteps : ∀ j s, steps[j]? = some s → ∀ i u, s.cells[i]? = some u → w.cell? ⟨sb, so + j * 5 + i, none⟩ = some u)
    (hnew : Calls Try.prog 55 #[v0] w (ListPost w n0 xs0)) (hn : n0 + 100000 * (steps.length + 1) < 33554431) (hG : Glob w) :
    Calls Try.prog 15 #[v0, .slice (some ⟨sb, so, none⟩) steps.length cap] w fun e w' => ∃ l p, e = .returned (.tuple #[l, p]) ∧ Below w.heap.size w w' ∧ Outer w' l (versRun steps ([xs0], [])).1 ∧
      SlV w' p ((versRun steps ([xs0], [])).2.map Value.bool) := by
  have hl := versRun_len steps ([xs0], [])
  have hk : 100000 * steps.length ≤ 100000 * (steps.length + 1) := Nat.mul_le_mul_left _ (by omega)
  have hq : steps.length ≤ 100000 * steps.length := Nat.le_mul_of_pos_left _ (by decide)
  have h8 : n0 + 100000 * steps.length < 33554432 := Nat.lt_of_le_of_lt (Nat.add_le_add_left hk _) (Nat.lt_trans hn (by decide))
  have h9 : (versRun steps ([xs0], [])).1.length ≤ 1000000 := by
    rw [hl]
    have h10 : 100000 * (steps.length + 1) < 33554431 := Nat.lt_of_le_of_lt (Nat.le_add_left _ _) hn
    have : steps.length + 1 < 1000 := by
      rcases Nat.lt_or_ge (steps.length + 1) 1000 with h | h
      · exact h
      · exfalso
        have := Nat.mul_le_mul_left 100000 h
        have h11 : 100000 * 1000 < 33554431 := Nat.lt_of_le_of_lt this h10
        exact absurd h11 (by decide)
    simp only [List.length_cons, List.length_nil]
    omega
  refine (run_w w v0 _ (n0 + 100000 * steps.length) (versRun steps ([xs0], [])).1 (versRun steps ([xs0], [])).2 h8 h9 (vers_w w v0 n0 xs0 _ steps sb so cap rfl hsb hsteps hnew hn hG)).mono ?_
  rintro e w' ⟨l, p, rfl, h1, h2, h3⟩
  exact ⟨l, p, rfl, h1, h2.outer (by intro e; rw [e] at hl; simp at hl), SlV.of_own h3⟩

theorem flat_get : ∀ (steps : List Stp) (j : Nat) (s : Stp), steps[j]? = some s → ∀ (i : Nat) (u : Value), s.cells[i]? = some u → (steps.flatMap Stp.cells)[j * 5 + i]? = some u
  | [], j, s, h, i, u, hu => by simp at h
  | a :: l, 0, s, h, i, u, hu => by
    simp only [List.getElem?_cons_zero, Option.some.injEq] at h
    subst h
    have hi : i < a.cells.length := (List.getElem?_eq_some_iff.1 hu).1
    rw [List.flatMap_cons, Nat.zero_mul, Nat.zero_add, List.getElem?_append_left hi]
    exact hu
  | a :: l, j + 1, s, h, i, u, hu => by
    rw [List.getElem?_cons_succ] at h
    have hl : a.cells.length = 5 := rfl
    rw [List.flatMap_cons, List.getElem?_append_right (by omega), show (j + 1) * 5 + i - a.cells.length = j * 5 + i by omega]
    exact flat_get l j s h i u hu

theorem steps_at {w : World} {b : Nat} {steps : List Stp} (h : w.heap[b]? = some (.cells (steps.flatMap Stp.cells).toArray 29 (0, 0))) :
    ∀ j s, steps[j]? = some s → ∀ i u, s.cells[i]? = some u → w.cell? ⟨b, 0 + j * 5 + i, none⟩ = some u := fun j s hs i u hu => by
  rw [Nat.zero_add]
  exact cell_at h (by simpa using flat_get steps j s hs i u hu)

set_option maxRecDepth 100000 in
set_option maxHeartbeats 800000 in
theorem awake (w : World) (hG : Glob w) : Calls Try.prog 17 #[] w fun e w' => e = .returned (.bool true) ∧ Below w.heap.size w w' := by
  have HG := Lib.hid hG
  clear hG
  go_enter Try.func17, Try.ntmps17
  go_wp2_with fail
  have hb0 : Below w.heap.size w (w.alloc (.cells #[.int .i64 1] 2)) := (Below.refl _ _).alloc (Nat.le_refl _) _
  have hb1 : Below w.heap.size w ((w.alloc (.cells #[.int .i64 1] 2)).alloc (.cells (([⟨0, 0, 0, 0, 2⟩, ⟨2, 0, 5, 0, 0⟩] : List Stp).flatMap Stp.cells).toArray 29)) := hb0.alloc (by simp) _
  have hst := heap_alloc_last (w.alloc (.cells #[.int .i64 1] 2)) (.cells (([⟨0, 0, 0, 0, 2⟩, ⟨2, 0, 5, 0, 0⟩] : List Stp).flatMap Stp.cells).toArray 29)
  have hv0 : ((w.alloc (.cells #[.int .i64 1] 2)).alloc (.cells (([⟨0, 0, 0, 0, 2⟩, ⟨2, 0, 5, 0, 0⟩] : List Stp).flatMap Stp.cells).toArray 29)).cell? ⟨w.heap.size, 0, none⟩ = some (.int .i64 1) := by
    refine cell_at ((Below.heap_alloc _ _ _ (by simp)).trans (heap_alloc_last w _)) rfl
  have hsz : (w.alloc (.cells #[.int .i64 1] 2)).heap.size = w.heap.size + 1 := by simp
  rw [hsz] at hst
  have hrun := listRun_any _ (.slice (some ⟨w.heap.size, 0, none⟩) 1 1) 1 [1] [⟨0, 0, 0, 0, 2⟩, ⟨2, 0, 5, 0, 0⟩] (w.heap.size + 1) 0 2 (lt_of_block hst) (steps_at hst) (new1 _ _ 1 1 _ hv0) (by decide) (HG.out.stay (Stay.of_below hb1))
  have hvs : (versRun [⟨0, 0, 0, 0, 2⟩, ⟨2, 0, 5, 0, 0⟩] ([[1]], [])) = ([[1], [1, 2], [1]], [false, true]) := by decide
  rw [hvs] at hrun
  have HRUN := Lib.hid hrun
  have HB1 := Lib.hid hb1
  clear hb0 hb1 hst hv0 hsz hrun hvs
  change Calls Try.prog 15 _ ((w.alloc (.cells #[.int .i64 1] 2)).alloc (.cells (([⟨0, 0, 0, 0, 2⟩, ⟨2, 0, 5, 0, 0⟩] : List Stp).flatMap Stp.cells).toArray 29)) _
  refine HRUN.out.mono ?_
  clear HRUN
  rintro e w2 ⟨l, p, rfl, hb, ⟨g, cap, rfl, ho⟩, ⟨pa, pc, rfl, hp⟩⟩
  have HB2 := Lib.hid (HB1.out.trans (hb.mono HB1.out.size))
  obtain ⟨a0, c0, hc0, hs0⟩ := ho 0 [1] rfl
  obtain ⟨a1, c1, hc1, hs1⟩ := ho 1 [1, 2] rfl
  have HP : Hid (SlV w2 (.slice pa 2 pc) ([false, true].map Value.bool)) := ⟨pa, pc, rfl, hp⟩
  have HS0 := Lib.hid hs0
  have HS1 := Lib.hid hs1
  clear HB1 hb ho hp hs0 hs1
  simp only [List.length_cons, List.length_nil, Nat.zero_add, Nat.reduceAdd, List.map_cons, List.map_nil] at hc0 hc1 HS0 HS1 HP ⊢
  go_wp2_with fail
  have ha : Below w2.heap.size w2 (w2.alloc (.cells #[.int .i64 1] 2)) := (Below.refl _ _).alloc (Nat.le_refl _) _
  refine (equal_ints (xs := [1]) (ys := [1]) (HS0.out.below ha) (SlV.new w2 2 [.int .i64 1] (by simp)) (by decide)).mono ?_
  rintro e w3 ⟨rfl, hs⟩
  have hb3 : Below w2.heap.size w2 w3 := ha.trans (hs.below _)
  have HB3 := Lib.hid (HB2.out.trans (hb3.mono HB2.out.size))
  have HS1' := Lib.hid (HS1.out.below hb3)
  have HP' := Lib.hid (HP.out.below hb3)
  have hc1' := (hb3.cell (World.block_lt_of_cell? w2 _ hc1)).trans hc1
  clear ha hs hb3 hc0 hc1 HS0 HS1 HP HB2
  have hd : decide (([1] : List Int) = [1]) = true := by decide
  rw [hd]
  go_wp2_with fail
  have ha : Below w3.heap.size w3 (w3.alloc (.cells #[.int .i64 1, .int .i64 2] 2)) := (Below.refl _ _).alloc (Nat.le_refl _) _
  refine (equal_ints (xs := [1, 2]) (ys := [1, 2]) (HS1'.out.below ha) (SlV.new w3 2 [.int .i64 1, .int .i64 2] (by simp)) (by decide)).mono ?_
  rintro e w4 ⟨rfl, hs⟩
  have hb4 : Below w3.heap.size w3 w4 := ha.trans (hs.below _)
  have HB4 := Lib.hid (HB3.out.trans (hb4.mono HB3.out.size))
  have HP4 := Lib.hid (HP'.out.below hb4)
  clear ha hs hb4 hc1' HS1' HP' HB3 hd
  have hd : decide (([1, 2] : List Int) = [1, 2]) = true := by decide
  rw [hd]
  go_wp2_with fail
  have ha : Below w4.heap.size w4 (w4.alloc (.cells #[.bool false, .bool true] 4)) := (Below.refl _ _).alloc (Nat.le_refl _) _
  refine (equal_bools (xs := [false, true]) (ys := [false, true]) (HP4.out.below ha) (SlV.new w4 4 [.bool false, .bool true] (by simp)) (by decide)).mono ?_
  rintro e w5 ⟨rfl, hs⟩
  have HB5 := Lib.hid ((HB4.out.alloc HB4.out.size (.cells #[.bool false, .bool true] 4)).trans ((hs.below w.heap.size)))
  clear ha hs HP4 HB4 hd
  have hd : decide (([false, true] : List Bool) = [false, true]) = true := by decide
  rw [hd]
  go_wp2_with fail
  go_ret
  exact ⟨rfl, HB5.out⟩

end Go.Proofs.Ytnahipfdnadccaa
