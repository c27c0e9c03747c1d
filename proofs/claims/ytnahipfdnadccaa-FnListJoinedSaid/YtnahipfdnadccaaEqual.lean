/- slices.Equal over whole numbers and over bools. Conditions of this file: none. -/
import Derived.Test.YtnahipfdnadccaaRun
namespace Go.Proofs.Ytnahipfdnadccaa
open Go.RowKit

/-- memory, streams and tape are as they were -/
structure Same (w w' : World) : Prop where
  heap : w'.heap = w.heap
  os : w'.os = w.os
  tape : w'.tape = w.tape
  output : w'.output = w.output
theorem Same.refl (w : World) : Same w w := ⟨rfl, rfl, rfl, rfl⟩
theorem Same.drew {w w' : World} (h : Same w w') : Same w w'.drew := ⟨h.heap, h.os, h.tape, h.output⟩
theorem Same.trans {a b c : World} (h : Same a b) (k : Same b c) : Same a c := ⟨k.heap.trans h.heap, k.os.trans h.os, k.tape.trans h.tape, k.output.trans h.output⟩
theorem Same.cell {w w' : World} (h : Same w w') {a : Addr} {v : Value} (hc : w.cell? a = some v) : w'.cell? a = some v := by
  rw [World.cell?_of_block (w := w) (by rw [h.heap])]; exact hc
theorem Same.below {w w' : World} (h : Same w w') (B : Nat) : Below B w w' := ⟨h.os, h.tape, h.output, by rw [h.heap]; exact Nat.le_refl _, fun k _ => by rw [h.heap]⟩

/-- u is a slice that reads cs -/
def SlV (w : World) (u : Value) (cs : List Value) : Prop :=
  ∃ (a : Option Addr) (cap : Nat), u = .slice a cs.length cap ∧ ∀ (i : Nat) (c : Value), cs[i]? = some c → ∃ g o, a = some ⟨g, o, none⟩ ∧ w.cell? ⟨g, o + i, none⟩ = some c
theorem SlV.same {w w' : World} {u : Value} {cs : List Value} (h : SlV w u cs) (s : Same w w') : SlV w' u cs := by
  obtain ⟨a, cap, h1, h2⟩ := h
  exact ⟨a, cap, h1, fun i c hc => by obtain ⟨g, o, h3, h4⟩ := h2 i c hc; exact ⟨g, o, h3, s.cell h4⟩⟩
theorem SlV.below {w w' : World} {u : Value} {cs : List Value} (h : SlV w u cs) (s : Below w.heap.size w w') : SlV w' u cs := by
  obtain ⟨a, cap, h1, h2⟩ := h
  exact ⟨a, cap, h1, fun i c hc => by obtain ⟨g, o, h3, h4⟩ := h2 i c hc; exact ⟨g, o, h3, (s.cell (World.block_lt_of_cell? w _ h4)).trans h4⟩⟩
theorem SlV.of_own {w : World} {B n : Nat} {e : TypeId} {u : Value} {cs : List Value} (h : w.ownsRow B e 1 u n cs) : SlV w u cs := by
  have hn : cs.length = n := by simpa using h.1
  rcases h.2 with ⟨rfl, rfl⟩ | ⟨g, cap, cur, rfl, _⟩
  · have : cs = [] := List.eq_nil_of_length_eq_zero hn
    subst this
    exact ⟨none, 0, rfl, fun i c hc => by simp at hc⟩
  · refine ⟨_, cap, by rw [hn], fun i c hc => ⟨g, 0, rfl, ?_⟩⟩
    have := h.cells (g := g) rfl i c hc
    rwa [Addr.add_lit] at this


set_option maxRecDepth 100000 in
set_option maxHeartbeats 800000 in
theorem equal_ints_w (g o cap g' o' cap' : Nat) (xs ys : List Int) (w : World) (hl : xs.length = ys.length) (hm : xs.length < 1000000000)
    (hx : ∀ (i : Nat) (x : Int), xs[i]? = some x → w.cell? ⟨g, o + i, none⟩ = some (Value.int .i64 x)) (hy : ∀ (i : Nat) (x : Int), ys[i]? = some x → w.cell? ⟨g', o' + i, none⟩ = some (Value.int .i64 x)) :
    Calls Try.prog 16 #[.slice (some ⟨g, o, none⟩) xs.length cap, .slice (some ⟨g', o', none⟩) xs.length cap'] w fun e w' => e = .returned (.bool (decide (xs = ys))) ∧ Same w w' := by
  have HX := Lib.hid hx; clear hx
  have HY := Lib.hid hy; clear hy
  have HL := Lib.hid hl; clear hl
  have hnn : ((xs.length : Int) != (xs.length : Int)) = false := by simp
  go_enter Try.func16, Try.ntmps16
  go_wp2_with fail
  clear hnn
  go_loopg [13] xs.length (fun k v wr => ∃ i : Nat, i + k = xs.length ∧ v = .int .i64 (i : Int) ∧ xs.take i = ys.take i ∧ Same w wr)
  case atStart => exact ⟨0, by omega, rfl, rfl, Same.refl w⟩
  case round =>
    obtain ⟨i, hik, rfl, ht, hs⟩ := hrel
    have HT := Lib.hid ht; clear ht
    have HS := Lib.hid hs
    have hw1 : IntKind.i64.wrap ((i : Int) + 1) = (i : Int) + 1 := by rw [IntKind.wrap_i64]; omega
    by_cases hlt : i < xs.length
    · have h1 : decide ((i : Int) < (xs.length : Int)) = true := by simp; omega
      obtain ⟨x, hxi⟩ : ∃ x, xs[i]? = some x := ⟨xs[i], List.getElem?_eq_getElem hlt⟩
      obtain ⟨y, hyi⟩ : ∃ y, ys[i]? = some y := ⟨ys[i]'(by rw [← HL.out]; exact hlt), List.getElem?_eq_getElem _⟩
      have cx := hs.cell (HX.out i x hxi)
      have cy := hs.cell (HY.out i y hyi)
      have HXI := Lib.hid hxi; clear hxi
      have HYI := Lib.hid hyi; clear hyi hs
      by_cases he : x = y
      · have hne : (x != y) = false := by simp [he]
        have HE := Lib.hid he; clear he
        go_wp2_with fail
        refine region_still (by kernel_rfl) (by kernel_rfl) ?_
        repeat still_step
        refine wpStill_nil ?_
        go_wp2_with fail
        go_roundg (gk - 1)
        case measure => omega
        case rel =>
          refine ⟨i + 1, by omega, rfl, ?_, HS.out.drew⟩
          rw [List.take_add_one, List.take_add_one, HXI.out, HYI.out, HT.out, HE.out]
      · have hne : (x != y) = true := by simp [he]
        have HE := Lib.hid he; clear he
        go_wp2_with fail
        refine region_still (by kernel_rfl) (by kernel_rfl) ?_
        repeat still_step
        refine wpStill_nil ?_
        go_wp2_with fail
        go_ret
        refine ⟨?_, HS.out.drew⟩
        have : ¬ xs = ys := fun e => by
          have h1 := HXI.out
          rw [e, HYI.out] at h1
          exact HE.out (Option.some.inj h1).symm
        rw [decide_eq_false this]
        rfl
    · have h1 : decide ((i : Int) < (xs.length : Int)) = false := by simp; omega
      go_wp2_with fail
      go_ret
      refine ⟨?_, HS.out⟩
      have h2 := HT.out
      rw [List.take_of_length_le (by omega), List.take_of_length_le (by rw [← HL.out]; omega)] at h2
      rw [decide_eq_true h2]
      rfl

set_option maxRecDepth 100000 in
set_option maxHeartbeats 800000 in
theorem equal_ints_0 (a a' : Option Addr) (cap cap' : Nat) (w : World) :
    Calls Try.prog 16 #[.slice a 0 cap, .slice a' 0 cap'] w fun e w' => e = .returned (.bool true) ∧ Same w w' := by
  go_enter Try.func16, Try.ntmps16
  go_wp2_with fail
  refine wp_loop_once ?_
  go_wp2_with fail
  go_ret
  exact ⟨rfl, Same.refl w⟩

set_option maxRecDepth 100000 in
set_option maxHeartbeats 800000 in
theorem equal_ints_ne (a a' : Option Addr) (n n' cap cap' : Nat) (w : World) (hn : n ≠ n') :
    Calls Try.prog 16 #[.slice a n cap, .slice a' n' cap'] w fun e w' => e = .returned (.bool false) ∧ Same w w' := by
  have hnn : ((n : Int) != (n' : Int)) = true := by simp; omega
  go_enter Try.func16, Try.ntmps16
  go_wp2_with fail
  go_ret
  exact ⟨rfl, Same.refl w⟩

/-- slices.Equal -/
theorem equal_ints {w : World} {u v : Value} {xs ys : List Int} (hu : SlV w u (xs.map (Value.int .i64))) (hv : SlV w v (ys.map (Value.int .i64))) (hm : xs.length < 1000000000) :
    Calls Try.prog 16 #[u, v] w fun e w' => e = .returned (.bool (decide (xs = ys))) ∧ Same w w' := by
  obtain ⟨a, cap, rfl, hu⟩ := hu
  obtain ⟨a', cap', rfl, hv⟩ := hv
  rw [List.length_map, List.length_map]
  by_cases hl : xs.length = ys.length
  · rcases Nat.eq_zero_or_pos xs.length with h0 | h0
    · have e1 := List.eq_nil_of_length_eq_zero h0
      have e2 := List.eq_nil_of_length_eq_zero (hl ▸ h0 : ys.length = 0)
      subst e1 e2
      exact (equal_ints_0 a a' cap cap' w).mono fun e w' h => ⟨by rw [h.1]; rfl, h.2⟩
    · obtain ⟨g, o, rfl, _⟩ := hu 0 ((Value.int .i64) xs[0]) (by rw [List.getElem?_map, List.getElem?_eq_getElem h0]; rfl)
      obtain ⟨g', o', rfl, _⟩ := hv 0 (Value.int .i64 ys[0]) (by rw [List.getElem?_map, List.getElem?_eq_getElem (by omega)]; rfl)
      rw [← hl]
      refine equal_ints_w g o cap g' o' cap' xs ys w hl hm (fun i x hx => ?_) (fun i x hx => ?_)
      · obtain ⟨g2, o2, h1, h2⟩ := hu i (Value.int .i64 x) (by rw [List.getElem?_map, hx]; rfl)
        simp only [Option.some.injEq, Addr.mk.injEq, and_true] at h1
        obtain ⟨rfl, rfl⟩ := h1
        exact h2
      · obtain ⟨g2, o2, h1, h2⟩ := hv i (Value.int .i64 x) (by rw [List.getElem?_map, hx]; rfl)
        simp only [Option.some.injEq, Addr.mk.injEq, and_true] at h1
        obtain ⟨rfl, rfl⟩ := h1
        exact h2
  · refine (equal_ints_ne a a' xs.length ys.length cap cap' w hl).mono fun e w' h => ⟨?_, h.2⟩
    rw [h.1, decide_eq_false fun e => hl (by rw [e])]


set_option maxRecDepth 100000 in
set_option maxHeartbeats 800000 in
theorem equal_bools_w (g o cap g' o' cap' : Nat) (xs ys : List Bool) (w : World) (hl : xs.length = ys.length) (hm : xs.length < 1000000000)
    (hx : ∀ (i : Nat) (x : Bool), xs[i]? = some x → w.cell? ⟨g, o + i, none⟩ = some (Value.bool x)) (hy : ∀ (i : Nat) (x : Bool), ys[i]? = some x → w.cell? ⟨g', o' + i, none⟩ = some (Value.bool x)) :
    Calls Try.prog 23 #[.slice (some ⟨g, o, none⟩) xs.length cap, .slice (some ⟨g', o', none⟩) xs.length cap'] w fun e w' => e = .returned (.bool (decide (xs = ys))) ∧ Same w w' := by
  have HX := Lib.hid hx; clear hx
  have HY := Lib.hid hy; clear hy
  have HL := Lib.hid hl; clear hl
  have hnn : ((xs.length : Int) != (xs.length : Int)) = false := by simp
  go_enter Try.func23, Try.ntmps23
  go_wp2_with fail
  clear hnn
  go_loopg [13] xs.length (fun k v wr => ∃ i : Nat, i + k = xs.length ∧ v = .int .i64 (i : Int) ∧ xs.take i = ys.take i ∧ Same w wr)
  case atStart => exact ⟨0, by omega, rfl, rfl, Same.refl w⟩
  case round =>
    obtain ⟨i, hik, rfl, ht, hs⟩ := hrel
    have HT := Lib.hid ht; clear ht
    have HS := Lib.hid hs
    have hw1 : IntKind.i64.wrap ((i : Int) + 1) = (i : Int) + 1 := by rw [IntKind.wrap_i64]; omega
    by_cases hlt : i < xs.length
    · have h1 : decide ((i : Int) < (xs.length : Int)) = true := by simp; omega
      obtain ⟨x, hxi⟩ : ∃ x, xs[i]? = some x := ⟨xs[i], List.getElem?_eq_getElem hlt⟩
      obtain ⟨y, hyi⟩ : ∃ y, ys[i]? = some y := ⟨ys[i]'(by rw [← HL.out]; exact hlt), List.getElem?_eq_getElem _⟩
      have cx := hs.cell (HX.out i x hxi)
      have cy := hs.cell (HY.out i y hyi)
      have HXI := Lib.hid hxi; clear hxi
      have HYI := Lib.hid hyi; clear hyi hs
      cases x <;> cases y
      · go_wp2_with fail
        refine region_still (by kernel_rfl) (by kernel_rfl) ?_
        repeat still_step
        refine wpStill_nil ?_
        go_wp2_with fail
        go_roundg (gk - 1)
        case measure => omega
        case rel =>
          refine ⟨i + 1, by omega, rfl, ?_, HS.out.drew⟩
          rw [List.take_add_one, List.take_add_one, HXI.out, HYI.out, HT.out]
      · go_wp2_with fail
        refine region_still (by kernel_rfl) (by kernel_rfl) ?_
        repeat still_step
        refine wpStill_nil ?_
        go_wp2_with fail
        go_ret
        refine ⟨?_, HS.out.drew⟩
        have : ¬ xs = ys := fun e => by
          have h1 := HXI.out
          rw [e, HYI.out] at h1
          exact absurd (Option.some.inj h1) (by decide)
        rw [decide_eq_false this]
        rfl
      · go_wp2_with fail
        refine region_still (by kernel_rfl) (by kernel_rfl) ?_
        repeat still_step
        refine wpStill_nil ?_
        go_wp2_with fail
        go_ret
        refine ⟨?_, HS.out.drew⟩
        have : ¬ xs = ys := fun e => by
          have h1 := HXI.out
          rw [e, HYI.out] at h1
          exact absurd (Option.some.inj h1) (by decide)
        rw [decide_eq_false this]
        rfl
      · go_wp2_with fail
        refine region_still (by kernel_rfl) (by kernel_rfl) ?_
        repeat still_step
        refine wpStill_nil ?_
        go_wp2_with fail
        go_roundg (gk - 1)
        case measure => omega
        case rel =>
          refine ⟨i + 1, by omega, rfl, ?_, HS.out.drew⟩
          rw [List.take_add_one, List.take_add_one, HXI.out, HYI.out, HT.out]
    · have h1 : decide ((i : Int) < (xs.length : Int)) = false := by simp; omega
      go_wp2_with fail
      go_ret
      refine ⟨?_, HS.out⟩
      have h2 := HT.out
      rw [List.take_of_length_le (by omega), List.take_of_length_le (by rw [← HL.out]; omega)] at h2
      rw [decide_eq_true h2]
      rfl

set_option maxRecDepth 100000 in
set_option maxHeartbeats 800000 in
theorem equal_bools_0 (a a' : Option Addr) (cap cap' : Nat) (w : World) :
    Calls Try.prog 23 #[.slice a 0 cap, .slice a' 0 cap'] w fun e w' => e = .returned (.bool true) ∧ Same w w' := by
  go_enter Try.func23, Try.ntmps23
  go_wp2_with fail
  refine wp_loop_once ?_
  go_wp2_with fail
  go_ret
  exact ⟨rfl, Same.refl w⟩

set_option maxRecDepth 100000 in
set_option maxHeartbeats 800000 in
theorem equal_bools_ne (a a' : Option Addr) (n n' cap cap' : Nat) (w : World) (hn : n ≠ n') :
    Calls Try.prog 23 #[.slice a n cap, .slice a' n' cap'] w fun e w' => e = .returned (.bool false) ∧ Same w w' := by
  have hnn : ((n : Int) != (n' : Int)) = true := by simp; omega
  go_enter Try.func23, Try.ntmps23
  go_wp2_with fail
  go_ret
  exact ⟨rfl, Same.refl w⟩

/-- slices.Equal -/
theorem equal_bools {w : World} {u v : Value} {xs ys : List Bool} (hu : SlV w u (xs.map Value.bool)) (hv : SlV w v (ys.map Value.bool)) (hm : xs.length < 1000000000) :
    Calls Try.prog 23 #[u, v] w fun e w' => e = .returned (.bool (decide (xs = ys))) ∧ Same w w' := by
  obtain ⟨a, cap, rfl, hu⟩ := hu
  obtain ⟨a', cap', rfl, hv⟩ := hv
  rw [List.length_map, List.length_map]
  by_cases hl : xs.length = ys.length
  · rcases Nat.eq_zero_or_pos xs.length with h0 | h0
    · have e1 := List.eq_nil_of_length_eq_zero h0
      have e2 := List.eq_nil_of_length_eq_zero (hl ▸ h0 : ys.length = 0)
      subst e1 e2
      exact (equal_bools_0 a a' cap cap' w).mono fun e w' h => ⟨by rw [h.1]; rfl, h.2⟩
    · obtain ⟨g, o, rfl, _⟩ := hu 0 (Value.bool xs[0]) (by rw [List.getElem?_map, List.getElem?_eq_getElem h0]; rfl)
      obtain ⟨g', o', rfl, _⟩ := hv 0 (Value.bool ys[0]) (by rw [List.getElem?_map, List.getElem?_eq_getElem (by omega)]; rfl)
      rw [← hl]
      refine equal_bools_w g o cap g' o' cap' xs ys w hl hm (fun i x hx => ?_) (fun i x hx => ?_)
      · obtain ⟨g2, o2, h1, h2⟩ := hu i (Value.bool x) (by rw [List.getElem?_map, hx]; rfl)
        simp only [Option.some.injEq, Addr.mk.injEq, and_true] at h1
        obtain ⟨rfl, rfl⟩ := h1
        exact h2
      · obtain ⟨g2, o2, h1, h2⟩ := hv i (Value.bool x) (by rw [List.getElem?_map, hx]; rfl)
        simp only [Option.some.injEq, Addr.mk.injEq, and_true] at h1
        obtain ⟨rfl, rfl⟩ := h1
        exact h2
  · refine (equal_bools_ne a a' xs.length ys.length cap cap' w hl).mono fun e w' h => ⟨?_, h.2⟩
    rw [h.1, decide_eq_false fun e => hl (by rw [e])]

end Go.Proofs.Ytnahipfdnadccaa
