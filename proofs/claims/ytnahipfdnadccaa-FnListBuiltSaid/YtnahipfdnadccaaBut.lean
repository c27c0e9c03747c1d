/- A list's set and slice that panic: where the place, or an end, is not in the list; they change nothing.

What stays where some blocks only are written. -/
import Derived.Test.YtnahipfdnadccaaListB
namespace Go.Proofs.Ytnahipfdnadccaa
open Go.RowKit

/-- a panic with a text, and nothing has changed -/
def Threw (w : World) (e : Ending) (w' : World) : Prop := w' = w ∧ ∃ v, e = .panicked [{ v := .iface 9 v, recovered := false }]

set_option maxRecDepth 100000 in
set_option maxHeartbeats 400000 in
theorem set_panics_w (b : Nat) (s i x : Int) (w : World) (hc2 : w.cell? ⟨b, 2, none⟩ = some (.int .i64 s)) (hi : i < 0 ∨ s ≤ i) :
    Calls Try.prog 68 #[.pointer (some ⟨b, 0, none⟩), .int .i64 i, .int .i64 x, .bool false] w (Threw w) := by
  by_cases h0 : i < 0
  · have h1 : decide (i < 0) = true := by simp [h0]
    clear hi
    go_enter Try.func68, Try.ntmps68
    go_wp2_with fail
    exact ⟨rfl, rfl, _, rfl⟩
  · have h1 : decide (i < 0) = false := by simp [h0]
    have h2 : decide (s ≤ i) = true := by simp; omega
    clear hi
    go_enter Try.func68, Try.ntmps68
    go_wp2_with fail
    exact ⟨rfl, rfl, _, rfl⟩

set_option maxRecDepth 100000 in
set_option maxHeartbeats 400000 in
theorem slice_panics_w (b : Nat) (s x e : Int) (w : World) (hc2 : w.cell? ⟨b, 2, none⟩ = some (.int .i64 s)) (hi : x < 0 ∨ s < x ∨ e < 0 ∨ s < e ∨ e < x) :
    Calls Try.prog 69 #[.pointer (some ⟨b, 0, none⟩), .int .i64 x, .int .i64 e, .bool false] w (Threw w) := by
  by_cases h0 : x < 0 ∨ s < x
  · by_cases h0' : x < 0
    · have h1 : decide (x < 0) = true := by simp [h0']
      clear hi h0
      go_enter Try.func69, Try.ntmps69
      go_wp2_with fail
      exact ⟨rfl, rfl, _, rfl⟩
    · have h1 : decide (x < 0) = false := by simp [h0']
      have h2 : decide (s < x) = true := by simp; omega
      clear hi h0
      go_enter Try.func69, Try.ntmps69
      go_wp2_with fail
      exact ⟨rfl, rfl, _, rfl⟩
  · have h1 : decide (x < 0) = false := by simp; omega
    have h2 : decide (s < x) = false := by simp; omega
    by_cases h3 : e < 0 ∨ s < e
    · by_cases h3' : e < 0
      · have h5 : decide (e < 0) = true := by simp [h3']
        clear hi h0 h3
        go_enter Try.func69, Try.ntmps69
        go_wp2_with fail
        exact ⟨rfl, rfl, _, rfl⟩
      · have h5 : decide (e < 0) = false := by simp [h3']
        have h6 : decide (s < e) = true := by simp; omega
        clear hi h0 h3
        go_enter Try.func69, Try.ntmps69
        go_wp2_with fail
        exact ⟨rfl, rfl, _, rfl⟩
    · have h5 : decide (e < 0) = false := by simp; omega
      have h6 : decide (s < e) = false := by simp; omega
      have h7 : decide (e < x) = true := by simp; omega
      clear hi h0 h3
      go_enter Try.func69, Try.ntmps69
      go_wp2_with fail
      exact ⟨rfl, rfl, _, rfl⟩

theorem set_panics {w : World} {v : Value} {n : Nat} {xs : List Int} (i x : Int) (h : IsList w v n xs) (hi : i < 0 ∨ (xs.length : Int) ≤ i) :
    Calls Try.prog 59 #[v, .int .i64 i, .int .i64 x] w (Threw w) := by
  obtain ⟨b, d, o, rfl, p, hblk, hrest⟩ := h
  obtain ⟨hc0, hc1, hc2⟩ := head_cells hblk
  exact Set_w _ _ _ _ _ (set_panics_w b _ i x w hc2 hi) (fun e w' h => .inr ⟨_, h.2.choose_spec⟩)

theorem slice_panics {w : World} {v : Value} {n : Nat} {xs : List Int} (x e : Int) (h : IsList w v n xs) (hi : x < 0 ∨ (xs.length : Int) < x ∨ e < 0 ∨ (xs.length : Int) < e ∨ e < x) :
    Calls Try.prog 60 #[v, .int .i64 x, .int .i64 e] w (Threw w) := by
  obtain ⟨b, d, o, rfl, p, hblk, hrest⟩ := h
  obtain ⟨hc0, hc1, hc2⟩ := head_cells hblk
  exact Slice_w _ _ _ _ _ (slice_panics_w b _ x e w hc2 hi) (fun e w' h => .inr ⟨_, h.2.choose_spec⟩)

end Go.Proofs.Ytnahipfdnadccaa

namespace Go.Proofs.Ytnahipfdnadccaa
open Go.RowKit

/-- of the old blocks those of S alone have turned -/
structure But (S : Nat → Prop) (w w' : World) : Prop where
  os : w'.os = w.os
  tape : w'.tape = w.tape
  output : w'.output = w.output
  size : w.heap.size ≤ w'.heap.size
  block : ∀ k, k < w.heap.size → ¬ S k → w'.heap[k]? = w.heap[k]?

theorem But.refl (S : Nat → Prop) (w : World) : But S w w := ⟨rfl, rfl, rfl, Nat.le_refl _, fun _ _ _ => rfl⟩
theorem But.trans {S : Nat → Prop} {a b c : World} (h : But S a b) (k : But S b c) : But S a c :=
  ⟨k.os.trans h.os, k.tape.trans h.tape, k.output.trans h.output, Nat.le_trans h.size k.size, fun i hi hs => (k.block i (Nat.lt_of_lt_of_le hi h.size) hs).trans (h.block i hi hs)⟩
theorem But.of_below {S : Nat → Prop} {w w' : World} (h : Below w.heap.size w w') : But S w w' := ⟨h.os, h.tape, h.output, h.size, fun k hk _ => h.block k hk⟩
theorem But.below {S : Nat → Prop} {w w' : World} {B : Nat} (h : But S w w') (hB : B ≤ w.heap.size) (hS : ∀ k, S k → B ≤ k) : Below B w w' :=
  ⟨h.os, h.tape, h.output, h.size, fun k hk => h.block k (Nat.lt_of_lt_of_le hk hB) fun hs => absurd (hS k hs) (Nat.not_le_of_lt hk)⟩
theorem But.drew {S : Nat → Prop} {a w : World} (h : But S a w) : But S a w.drew := ⟨h.os, h.tape, h.output, h.size, h.block⟩
theorem But.alloc {S : Nat → Prop} {a w : World} (h : But S a w) (o : Obj) : But S a (w.alloc o) :=
  ⟨h.os, h.tape, h.output, Nat.le_trans h.size (by simp), fun k hk hs => (Below.heap_alloc _ _ _ (Nat.lt_of_lt_of_le hk h.size)).trans (h.block k hk hs)⟩
theorem But.setCell {S : Nat → Prop} {a w : World} (h : But S a w) {p : Addr} (hp : S p.block ∨ a.heap.size ≤ p.block) (u : Value) : But S a (w.setCell p u) :=
  ⟨h.os, h.tape, h.output, Nat.le_trans h.size (by simp [World.setCell]), fun k hk hs => (Below.heap_setCell _ _ _ _ (fun e => by
    subst e
    rcases hp with hp | hp
    · exact hs hp
    · omega)).trans (h.block k hk hs)⟩
theorem But.wider {S S' : Nat → Prop} {w w' : World} (h : But S w w') (hS : ∀ k, k < w.heap.size → S k → S' k) : But S' w w' :=
  ⟨h.os, h.tape, h.output, h.size, fun k hk hs => h.block k hk fun h' => hs (hS k hk h')⟩
theorem But.at {S : Nat → Prop} {w w' : World} (h : But S w w') {b : Nat} {o : Obj} (hb : w.heap[b]? = some o) (hs : ¬ S b) : w'.heap[b]? = some o :=
  (h.block b (lt_of_block hb) hs).trans hb
/-- lists stay where no block of a list is written -/
theorem But.stay {S : Nat → Prop} {w w' : World} (h : But S w w') (hS : ∀ b c t fz, S b → w.heap[b]? = some (.cells c t fz) → ¬ (t = 110 ∨ t = 125 ∨ t = 113 ∨ t = 144)) : Stay w w' := fun b c t h1 h2 => by
  by_cases hs : S b
  · exact absurd h2 (hS b c t (0, 0) hs h1)
  · exact h.at h1 hs

/-- behind a closure's step: the new list stands in its block -/
def CPost (w : World) (bx N : Nat) (ys : List Int) (e : Ending) (w' : World) : Prop :=
  e = .returned (.tuple #[]) ∧ ∃ r, w'.heap[bx]? = some (.cells #[r] 72 (0, 0)) ∧ IsList w' r N ys ∧ But (· = bx) w w'

theorem stay_var {w : World} {bx : Nat} {u r : Value} (hx : w.heap[bx]? = some (.cells #[u] 72 (0, 0))) : Stay w (w.setCell ⟨bx, 0, none⟩ r) := by
  refine (But.setCell (S := (· = bx)) (But.refl _ w) (p := ⟨bx, 0, none⟩) (.inl rfl) r).stay fun b c t fz hb h => ?_
  subst hb
  rw [hx] at h
  simp only [Option.some.injEq, Obj.cells.injEq] at h
  rw [← h.2.1]
  decide

theorem cpost_end {w w2 : World} {bx N : Nat} {u r : Value} {ys : List Int} (hx : w2.heap[bx]? = some (.cells #[u] 72 (0, 0))) (h : IsList w2 r N ys) (hb : But (· = bx) w w2) :
    CPost w bx N ys (.returned (.tuple #[])) (w2.setCell ⟨bx, 0, none⟩ r) := by
  refine ⟨rfl, r, ?_, h.stay (stay_var hx), hb.setCell (.inl rfl) r⟩
  have := heap_setCell_same w2 bx 0 _ 72 r hx
  simpa using this

end Go.Proofs.Ytnahipfdnadccaa
