/- Rows that a call makes, rows that are read: words of any program. -/
import Derived.Test.YtpkndcmgialgcaaHshD
import Derived.OwnWalk
import Derived.Maps.AppendAt
namespace Go.Proofs.Ytpkndcmgialgcaa
open Go.RowKit

theorem new_cell (w : World) (x : Value) (t : TypeId) : ∀ (j : Nat) (u : Value), [x][j]? = some u → (w.alloc (.cells #[x] t)).cell? ((⟨w.heap.size, 0, none⟩ : Addr).add j) = some u := by
  intro j u h
  cases j with
  | zero =>
    simp only [List.getElem?_cons_zero, Option.some.injEq] at h
    subst h
    exact cell_at (heap_alloc_last w _) rfl
  | succ j => simp at h
theorem new_cell_drew (w : World) (x : Value) (t : TypeId) : ∀ (j : Nat) (u : Value), [x][j]? = some u → (w.alloc (.cells #[x] t)).drew.cell? ((⟨w.heap.size, 0, none⟩ : Addr).add j) = some u := new_cell w x t
theorem one_oneCell {x : Value} (h : x.oneCell' = true) : ∀ u ∈ [x], u.oneCell' = true := by
  intro u hu
  simp only [List.mem_singleton] at hu
  subst hu
  exact h
theorem own_ne {w : World} {b b' size size' n n' : Nat} {e e' : TypeId} {v v' : Value} {xs xs' : List Value} (h : w.ownsRow b e size v n xs) (h' : w.ownsRow b' e' size' v' n' xs') (he : e ≠ e') :
    v.ownBlock = none ∨ v.ownBlock ≠ v'.ownBlock := by
  rcases h.2 with ⟨rfl, _⟩ | ⟨g, cap, cur, rfl, _, hg, _⟩
  · exact .inl rfl
  · rcases h'.2 with ⟨rfl, _⟩ | ⟨g', cap', cur', rfl, _, hg', _⟩
    · right; simp [Value.ownBlock]
    · right
      intro e1
      simp only [Value.ownBlock, Option.some.injEq] at e1
      subst e1
      rw [hg] at hg'
      simp only [Option.some.injEq, Obj.cells.injEq] at hg'
      exact he hg'.2.1
theorem below_grown {B base size n : Nat} {w0 wr A w1 : World} {e : TypeId} {v : Value} {xs : List Value} (hb : Below B w0 A) (ho : wr.ownsRow base e size v n xs) (hBb : B ≤ base) (hBh : B ≤ w0.heap.size)
    (hg : A.grownBy w1 v.ownBlock) : Below B w0 w1 :=
  Below.grown hb hg (Nat.le_trans hBh hb.size) fun k hk => Nat.le_trans hBb (ho.lt k hk).1
theorem grown_below {w w' : World} (h : Below w.heap.size w w') : w.grownBy w' none := ⟨h.os, h.tape, h.output, h.size, fun k hk _ => h.block k hk⟩
theorem own_below {w w' : World} {b size n : Nat} {e : TypeId} {v : Value} {xs : List Value} (ho : w.ownsRow b e size v n xs) (h : Below w.heap.size w w') : w'.ownsRow b e size v n xs :=
  ho.kept (grown_below h) (by cases hv : v.ownBlock <;> simp)
theorem own_base {w : World} {b b' size n : Nat} {e : TypeId} {v : Value} {xs : List Value} (ho : w.ownsRow b e size v n xs) (h : b' ≤ b) : w.ownsRow b' e size v n xs := by
  refine ⟨ho.1, ?_⟩
  rcases ho.2 with h1 | ⟨g, cap, cur, h1, h2, h3⟩
  · exact .inl h1
  · exact .inr ⟨g, cap, cur, h1, Nat.le_trans h h2, h3⟩
/-- memory, streams and tape are as they were -/
structure Same (w w' : World) : Prop where
  heap : w'.heap = w.heap
  os : w'.os = w.os
  tape : w'.tape = w.tape
  output : w'.output = w.output
theorem Same.refl (w : World) : Same w w := ⟨rfl, rfl, rfl, rfl⟩
theorem Same.drew {w w' : World} (h : Same w w') : Same w w'.drew := ⟨h.heap, h.os, h.tape, h.output⟩
theorem Same.trans {a b c : World} (h : Same a b) (k : Same b c) : Same a c := ⟨k.heap.trans h.heap, k.os.trans h.os, k.tape.trans h.tape, k.output.trans h.output⟩
theorem Same.cell {w w' : World} (h : Same w w') {a : Addr} {v : Value} (hc : w.cell? a = some v) : w'.cell? a = some v := by
  rw [World.cell?_of_block (w := w) (by rw [h.heap])]; exact hc
theorem Same.below {w w' : World} (h : Same w w') (B : Nat) : Below B w w' := ⟨h.os, h.tape, h.output, by rw [h.heap]; exact Nat.le_refl _, fun k _ => by rw [h.heap]⟩
/-- u is a slice that reads cs -/
def SlV (w : World) (u : Value) (cs : List Value) : Prop :=
  ∃ (a : Option Addr) (cap : Nat), u = .slice a cs.length cap ∧ ∀ (i : Nat) (c : Value), cs[i]? = some c → ∃ g o, a = some ⟨g, o, none⟩ ∧ w.cell? ⟨g, o + i, none⟩ = some c
theorem SlV.same {w w' : World} {u : Value} {cs : List Value} (h : SlV w u cs) (s : Same w w') : SlV w' u cs := by
  obtain ⟨a, cap, h1, h2⟩ := h
  exact ⟨a, cap, h1, fun i c hc => by obtain ⟨g, o, h3, h4⟩ := h2 i c hc; exact ⟨g, o, h3, s.cell h4⟩⟩
theorem SlV.below {w w' : World} {u : Value} {cs : List Value} (h : SlV w u cs) (s : Below w.heap.size w w') : SlV w' u cs := by
  obtain ⟨a, cap, h1, h2⟩ := h
  exact ⟨a, cap, h1, fun i c hc => by obtain ⟨g, o, h3, h4⟩ := h2 i c hc; exact ⟨g, o, h3, (s.cell (World.block_lt_of_cell? w _ h4)).trans h4⟩⟩
theorem SlV.of_own {w : World} {B n : Nat} {e : TypeId} {u : Value} {cs : List Value} (h : w.ownsRow B e 1 u n cs) : SlV w u cs := by
  have hn : cs.length = n := by simpa using h.1
  rcases h.2 with ⟨rfl, rfl⟩ | ⟨g, cap, cur, rfl, _⟩
  · have : cs = [] := List.eq_nil_of_length_eq_zero hn
    subst this
    exact ⟨none, 0, rfl, fun i c hc => by simp at hc⟩
  · refine ⟨_, cap, by rw [hn], fun i c hc => ⟨g, 0, rfl, ?_⟩⟩
    have := h.cells (g := g) rfl i c hc
    rwa [Addr.add_lit] at this
theorem own_ne_block {w : World} {b size n ib : Nat} {e t : TypeId} {v : Value} {xs : List Value} {c : Array Value} {z : Nat × Nat} (h : w.ownsRow b e size v n xs) (hb : w.heap[ib]? = some (.cells c t z)) (he : e ≠ t) :
    v.ownBlock = none ∨ v.ownBlock ≠ some ib := by
  rcases h.2 with ⟨rfl, _⟩ | ⟨g, cap, cur, rfl, _, hg, _⟩
  · exact .inl rfl
  · right
    intro e1
    simp only [Value.ownBlock, Option.some.injEq] at e1
    subst e1
    rw [hg] at hb
    simp only [Option.some.injEq, Obj.cells.injEq] at hb
    exact he hb.2.1
theorem own_but {w w' : World} {S : Nat → Prop} {b size n : Nat} {e : TypeId} {v : Value} {xs : List Value} (ho : w.ownsRow b e size v n xs) (hb : But S w w') (h : ∀ k, v.ownBlock = some k → ¬ S k) : w'.ownsRow b e size v n xs := by
  refine ⟨ho.1, ?_⟩
  rcases ho.2 with h1 | ⟨g, cap, cur, h1, h2, h3, h4⟩
  · exact .inl h1
  · exact .inr ⟨g, cap, cur, h1, h2, hb.at h3 (h g (by rw [h1]; rfl)), h4⟩
theorem but_grown {w w' : World} {ob : Option Nat} (h : w.grownBy w' ob) : But (fun x => ob = some x) w w' := ⟨h.os, h.tape, h.output, h.size, fun k hk hn => h.block k hk fun e => hn e.symm⟩
theorem but_alloc (w : World) (o : Obj) (S : Nat → Prop) : But S w (w.alloc o) := (But.refl S w).alloc _
theorem own_off {w : World} {b size n bb : Nat} {e t : TypeId} {v : Value} {xs : List Value} {c : Array Value} {z : Nat × Nat} (ho : w.ownsRow b e size v n xs) (hb : w.heap[bb]? = some (.cells c t z)) (he : e ≠ t) : ∀ k, v.ownBlock = some k → ¬ k = bb := fun k hk e1 => by
  rcases own_ne_block ho hb he with h | h
  · rw [h] at hk; cases hk
  · exact h (e1 ▸ hk)
theorem own_news {w : World} {B n g cap : Nat} {e : TypeId} {cs : List Value} (h : w.ownsRow B e 1 (.slice (some ⟨g, 0, none⟩) n cap) n cs) (o : Obj) : ∀ j u, cs[j]? = some u → (w.alloc o).cell? ((⟨g, 0, none⟩ : Addr).add j) = some u :=
  (h.alloc o).cells (g := g) rfl
theorem own_free {w : World} {B n g cap i : Nat} {e : TypeId} {cs : List Value} (h : w.ownsRow B e 1 (.slice (some ⟨g, 0, none⟩) n cap) n cs) (_hn : i < n) : w.frozen? ⟨g, i, none⟩ = false := by
  rcases h.2 with ⟨h1, _⟩ | ⟨g', cap', cur, h1, h2, h3, _⟩
  · cases h1
  · simp only [Value.slice.injEq, Option.some.injEq, Addr.mk.injEq, true_and, and_true] at h1
    obtain ⟨rfl, -⟩ := h1
    exact frozen_of_row _ _ _ _ _ h3
theorem own_cell {w : World} {B n g cap i : Nat} {e : TypeId} {cs : List Value} {u : Value} (h : w.ownsRow B e 1 (.slice (some ⟨g, 0, none⟩) n cap) n cs) (hu : cs[i]? = some u) : w.cell? ⟨g, i, none⟩ = some u := by
  have := h.cells (g := g) rfl i u hu
  rwa [Addr.add_lit, Nat.zero_add] at this
theorem own_room {w : World} {B n g cap : Nat} {e : TypeId} {cs : List Value} (h : w.ownsRow B e 1 (.slice (some ⟨g, 0, none⟩) n cap) n cs) : n ≤ cap := by
  rcases h.2 with ⟨h1, _⟩ | ⟨g', cap', cur, h1, h2, h3, h4, _⟩
  · cases h1
  · simp only [Value.slice.injEq] at h1
    omega
/-- u is a slice that reads cs; nil, if it lies nowhere -/
def SlN (w : World) (u : Value) (cs : List Value) : Prop :=
  ∃ (a : Option Addr) (cap : Nat), u = .slice a cs.length cap ∧ (a = none → cap = 0) ∧ ∀ (i : Nat) (c : Value), cs[i]? = some c → ∃ g o, a = some ⟨g, o, none⟩ ∧ w.cell? ⟨g, o + i, none⟩ = some c
theorem SlN.slv {w : World} {u : Value} {cs : List Value} (h : SlN w u cs) : SlV w u cs := by
  obtain ⟨a, cap, h1, h2, h3⟩ := h
  exact ⟨a, cap, h1, h3⟩
theorem SlN.below {w w' : World} {u : Value} {cs : List Value} (h : SlN w u cs) (s : Below w.heap.size w w') : SlN w' u cs := by
  obtain ⟨a, cap, h1, h0, h2⟩ := h
  exact ⟨a, cap, h1, h0, fun i c hc => by obtain ⟨g, o, h3, h4⟩ := h2 i c hc; exact ⟨g, o, h3, (s.cell (World.block_lt_of_cell? w _ h4)).trans h4⟩⟩
theorem own_newsB {wc wr : World} {B n g cap : Nat} {e : TypeId} {cs : List Value} (h : wc.ownsRow B e 1 (.slice (some ⟨g, 0, none⟩) n cap) n cs) (hb : Below wc.heap.size wc wr) : ∀ j u, cs[j]? = some u → wr.cell? ((⟨g, 0, none⟩ : Addr).add j) = some u := fun j u hu => by
  have h1 := h.cells (g := g) rfl j u hu
  rw [Addr.add_lit] at h1 ⊢
  exact (hb.cell (h.lt g rfl).2).trans h1
theorem builtE (w : World) {B : Nat} (x : Value) (e : TypeId) (h : B ≤ w.heap.size) : (w.alloc (.cells #[x] e)).ownsRow B e 1 (.slice (some ⟨w.heap.size, 0, none⟩) 1 1) 1 [x] :=
  ⟨rfl, .inr ⟨w.heap.size, 1, #[x], rfl, h, heap_alloc_last w _, Nat.le_refl _, by unfold maxLen; omega, rfl, rfl⟩⟩
end Go.Proofs.Ytpkndcmgialgcaa
