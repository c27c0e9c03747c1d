/- Words of the memory proofs that serve whatever program: cells, rows, regions. -/
import Derived.Test.YtefigjdebakccaaProg
import Derived.Test.YtefigjdebakccaaTree
import Derived.Test.YtefigjdebakccaaOrd
import Derived.WalkKit
import Derived.WalkSpells
import Derived.WalkLawsBesides
import Derived.Laws.NewBlocks
import Derived.Laws.CopyOwn
import Derived.Laws.MakeOwn
import Derived.Deep.WholeRow
import Derived.StillTailTactics
import Derived.Deep.RegionWith
import Derived.LoopTactic
import Derived.BigQuiet
import Derived.OwnWalk
import Derived.Maps.AppendAt
import Derived.Deep.LoopGhost
import Derived.Deep.DeepCutAuto
import Derived.Deep.CutBlock
import Derived.Outline
namespace Go.Proofs.Ytefigjdebakccaa
open Go.RowKit

@[go_sem] theorem run_makeFunc' (P : Program) (fn : Fn) (first cap : Array Value) (w : World) : (Instr.makeFunc fn first cap).run P w = .ok (.func fn first cap) w := rfl
/-- a cell of a row -/
theorem cell_at {w : World} {b j : Nat} {arr : Array Value} {t : TypeId} {fz : Nat × Nat} {v : Value} (hg : w.heap[b]? = some (.cells arr t fz)) (hv : arr[j]? = some v) : w.cell? ⟨b, j, none⟩ = some v := by
  rw [cell_of_row _ _ _ _ _ _ hg]; exact hv
theorem lt_of_block {w : World} {b : Nat} {o : Obj} (h : w.heap[b]? = some o) : b < w.heap.size := by
  rcases Nat.lt_or_ge b w.heap.size with h1 | h1
  · exact h1
  · rw [Array.getElem?_eq_none h1] at h; cases h
theorem Below.undrew {w w' : World} (h : Below w.drew.heap.size w.drew w') : Below w.heap.size w w' := (Below.refl _ w).drew.trans h
/-- a region that draws its order: what leaves the world, then a tail whose order is forced -/
theorem region_tail {P : Program} {id : Nat} {Q : Exit → Act → World → Prop} {a : Act} {w : World} {l : List Oper} (n : Nat) (hm : P.follows .mixedOrders = true) (hB : Region.lexTailB .any l.toArray n = true)
    (h : wpStill P l.toArray w.drew (fun a' => wpList P l.toArray Q (l.drop n) a' w.drew) (l.take n) a) : (Code.region id l.toArray true).wp P Q a w :=
  wp_region_still_tail n hm hB h
/-- all that was there stays, but for the blocks of S -/
structure But (S : Nat → Prop) (w w' : World) : Prop where
  os : w'.os = w.os
  tape : w'.tape = w.tape
  output : w'.output = w.output
  size : w.heap.size ≤ w'.heap.size
  block : ∀ k, k < w.heap.size → ¬ S k → w'.heap[k]? = w.heap[k]?
theorem But.refl (S : Nat → Prop) (w : World) : But S w w := ⟨rfl, rfl, rfl, Nat.le_refl _, fun _ _ _ => rfl⟩
theorem But.trans {S : Nat → Prop} {a b c : World} (h : But S a b) (k : But S b c) : But S a c :=
  ⟨k.os.trans h.os, k.tape.trans h.tape, k.output.trans h.output, Nat.le_trans h.size k.size, fun x hx hs => (k.block x (Nat.lt_of_lt_of_le hx h.size) hs).trans (h.block x hx hs)⟩
theorem But.of_below {S : Nat → Prop} {w w' : World} (h : Below w.heap.size w w') : But S w w' := ⟨h.os, h.tape, h.output, h.size, fun k hk _ => h.block k hk⟩
theorem But.below {S : Nat → Prop} {w w' : World} {B : Nat} (h : But S w w') (hB : B ≤ w.heap.size) (hS : ∀ k, S k → B ≤ k) : Below B w w' :=
  ⟨h.os, h.tape, h.output, h.size, fun k hk => h.block k (by omega) fun hs => by have := hS k hs; omega⟩
theorem But.drew {S : Nat → Prop} {a w : World} (h : But S a w) : But S a w.drew := ⟨h.os, h.tape, h.output, h.size, h.block⟩
theorem But.at {S : Nat → Prop} {w w' : World} (h : But S w w') {b : Nat} {o : Obj} (hb : w.heap[b]? = some o) (hs : ¬ S b) : w'.heap[b]? = some o := by
  rw [h.block b (lt_of_block hb) hs]; exact hb

theorem But.alloc {S : Nat → Prop} {a w : World} (h : But S a w) (o : Obj) : But S a (w.alloc o) :=
  ⟨h.os, h.tape, h.output, Nat.le_trans h.size (by simp), fun k hk hs => (Below.heap_alloc _ _ _ (Nat.lt_of_lt_of_le hk h.size)).trans (h.block k hk hs)⟩
theorem But.setCell {S : Nat → Prop} {a w : World} (h : But S a w) {p : Addr} (hp : S p.block ∨ a.heap.size ≤ p.block) (u : Value) : But S a (w.setCell p u) :=
  ⟨h.os, h.tape, h.output, Nat.le_trans h.size (by simp [World.setCell]), fun k hk hs => (Below.heap_setCell _ _ _ _ (fun e => by
    subst e
    rcases hp with hp | hp
    · exact hs hp
    · omega)).trans (h.block k hk hs)⟩
theorem But.wider {S S' : Nat → Prop} {w w' : World} (h : But S w w') (hS : ∀ k, k < w.heap.size → S k → S' k) : But S' w w' :=
  ⟨h.os, h.tape, h.output, h.size, fun k hk hs => h.block k hk fun h' => hs (hS k hk h')⟩

theorem new_cell (w : World) (x : Value) (t : TypeId) : ∀ (j : Nat) (u : Value), [x][j]? = some u → (w.alloc (.cells #[x] t)).cell? ((⟨w.heap.size, 0, none⟩ : Addr).add j) = some u := by
  intro j u h
  cases j with
  | zero =>
    simp only [List.getElem?_cons_zero, Option.some.injEq] at h
    subst h
    exact cell_at (heap_alloc_last w _) rfl
  | succ j => simp at h
theorem new_cell_drew (w : World) (x : Value) (t : TypeId) : ∀ (j : Nat) (u : Value), [x][j]? = some u → (w.alloc (.cells #[x] t)).drew.cell? ((⟨w.heap.size, 0, none⟩ : Addr).add j) = some u := new_cell w x t
theorem one_oneCell {x : Value} (h : x.oneCell' = true) : ∀ u ∈ [x], u.oneCell' = true := by
  intro u hu
  simp only [List.mem_singleton] at hu
  subst hu
  exact h
theorem own_ne {w : World} {b b' size size' n n' : Nat} {e e' : TypeId} {v v' : Value} {xs xs' : List Value} (h : w.ownsRow b e size v n xs) (h' : w.ownsRow b' e' size' v' n' xs') (he : e ≠ e') :
    v.ownBlock = none ∨ v.ownBlock ≠ v'.ownBlock := by
  rcases h.2 with ⟨rfl, _⟩ | ⟨g, cap, cur, rfl, _, hg, _⟩
  · exact .inl rfl
  · rcases h'.2 with ⟨rfl, _⟩ | ⟨g', cap', cur', rfl, _, hg', _⟩
    · right; simp [Value.ownBlock]
    · right
      intro e1
      simp only [Value.ownBlock, Option.some.injEq] at e1
      subst e1
      rw [hg] at hg'
      simp only [Option.some.injEq, Obj.cells.injEq] at hg'
      exact he hg'.2.1
theorem below_grown {B base size n : Nat} {w0 wr A w1 : World} {e : TypeId} {v : Value} {xs : List Value} (hb : Below B w0 A) (ho : wr.ownsRow base e size v n xs) (hBb : B ≤ base) (hBh : B ≤ w0.heap.size)
    (hg : A.grownBy w1 v.ownBlock) : Below B w0 w1 :=
  Below.grown hb hg (Nat.le_trans hBh hb.size) fun k hk => Nat.le_trans hBb (ho.lt k hk).1
theorem grown_below {w w' : World} (h : Below w.heap.size w w') : w.grownBy w' none := ⟨h.os, h.tape, h.output, h.size, fun k hk _ => h.block k hk⟩
theorem own_below {w w' : World} {b size n : Nat} {e : TypeId} {v : Value} {xs : List Value} (ho : w.ownsRow b e size v n xs) (h : Below w.heap.size w w') : w'.ownsRow b e size v n xs :=
  ho.kept (grown_below h) (by cases hv : v.ownBlock <;> simp)
theorem own_base {w : World} {b b' size n : Nat} {e : TypeId} {v : Value} {xs : List Value} (ho : w.ownsRow b e size v n xs) (h : b' ≤ b) : w.ownsRow b' e size v n xs := by
  refine ⟨ho.1, ?_⟩
  rcases ho.2 with h1 | ⟨g, cap, cur, h1, h2, h3⟩
  · exact .inl h1
  · exact .inr ⟨g, cap, cur, h1, Nat.le_trans h h2, h3⟩
/-- memory, streams and tape are as they were -/
structure Same (w w' : World) : Prop where
  heap : w'.heap = w.heap
  os : w'.os = w.os
  tape : w'.tape = w.tape
  output : w'.output = w.output
theorem Same.refl (w : World) : Same w w := ⟨rfl, rfl, rfl, rfl⟩
theorem Same.drew {w w' : World} (h : Same w w') : Same w w'.drew := ⟨h.heap, h.os, h.tape, h.output⟩
theorem Same.trans {a b c : World} (h : Same a b) (k : Same b c) : Same a c := ⟨k.heap.trans h.heap, k.os.trans h.os, k.tape.trans h.tape, k.output.trans h.output⟩
theorem Same.cell {w w' : World} (h : Same w w') {a : Addr} {v : Value} (hc : w.cell? a = some v) : w'.cell? a = some v := by
  rw [World.cell?_of_block (w := w) (by rw [h.heap])]; exact hc
theorem Same.below {w w' : World} (h : Same w w') (B : Nat) : Below B w w' := ⟨h.os, h.tape, h.output, by rw [h.heap]; exact Nat.le_refl _, fun k _ => by rw [h.heap]⟩
/-- u is a slice that reads cs -/
def SlV (w : World) (u : Value) (cs : List Value) : Prop :=
  ∃ (a : Option Addr) (cap : Nat), u = .slice a cs.length cap ∧ ∀ (i : Nat) (c : Value), cs[i]? = some c → ∃ g o, a = some ⟨g, o, none⟩ ∧ w.cell? ⟨g, o + i, none⟩ = some c
theorem SlV.same {w w' : World} {u : Value} {cs : List Value} (h : SlV w u cs) (s : Same w w') : SlV w' u cs := by
  obtain ⟨a, cap, h1, h2⟩ := h
  exact ⟨a, cap, h1, fun i c hc => by obtain ⟨g, o, h3, h4⟩ := h2 i c hc; exact ⟨g, o, h3, s.cell h4⟩⟩
theorem SlV.below {w w' : World} {u : Value} {cs : List Value} (h : SlV w u cs) (s : Below w.heap.size w w') : SlV w' u cs := by
  obtain ⟨a, cap, h1, h2⟩ := h
  exact ⟨a, cap, h1, fun i c hc => by obtain ⟨g, o, h3, h4⟩ := h2 i c hc; exact ⟨g, o, h3, (s.cell (World.block_lt_of_cell? w _ h4)).trans h4⟩⟩
theorem SlV.of_own {w : World} {B n : Nat} {e : TypeId} {u : Value} {cs : List Value} (h : w.ownsRow B e 1 u n cs) : SlV w u cs := by
  have hn : cs.length = n := by simpa using h.1
  rcases h.2 with ⟨rfl, rfl⟩ | ⟨g, cap, cur, rfl, _⟩
  · have : cs = [] := List.eq_nil_of_length_eq_zero hn
    subst this
    exact ⟨none, 0, rfl, fun i c hc => by simp at hc⟩
  · refine ⟨_, cap, by rw [hn], fun i c hc => ⟨g, 0, rfl, ?_⟩⟩
    have := h.cells (g := g) rfl i c hc
    rwa [Addr.add_lit] at this
theorem own_ne_block {w : World} {b size n ib : Nat} {e t : TypeId} {v : Value} {xs : List Value} {c : Array Value} {z : Nat × Nat} (h : w.ownsRow b e size v n xs) (hb : w.heap[ib]? = some (.cells c t z)) (he : e ≠ t) :
    v.ownBlock = none ∨ v.ownBlock ≠ some ib := by
  rcases h.2 with ⟨rfl, _⟩ | ⟨g, cap, cur, rfl, _, hg, _⟩
  · exact .inl rfl
  · right
    intro e1
    simp only [Value.ownBlock, Option.some.injEq] at e1
    subst e1
    rw [hg] at hb
    simp only [Option.some.injEq, Obj.cells.injEq] at hb
    exact he hb.2.1
theorem own_but {w w' : World} {S : Nat → Prop} {b size n : Nat} {e : TypeId} {v : Value} {xs : List Value} (ho : w.ownsRow b e size v n xs) (hb : But S w w') (h : ∀ k, v.ownBlock = some k → ¬ S k) : w'.ownsRow b e size v n xs := by
  refine ⟨ho.1, ?_⟩
  rcases ho.2 with h1 | ⟨g, cap, cur, h1, h2, h3, h4⟩
  · exact .inl h1
  · exact .inr ⟨g, cap, cur, h1, h2, hb.at h3 (h g (by rw [h1]; rfl)), h4⟩
theorem but_grown {w w' : World} {ob : Option Nat} (h : w.grownBy w' ob) : But (fun x => ob = some x) w w' := ⟨h.os, h.tape, h.output, h.size, fun k hk hn => h.block k hk fun e => hn e.symm⟩
theorem but_alloc (w : World) (o : Obj) (S : Nat → Prop) : But S w (w.alloc o) := (But.refl S w).alloc _
theorem own_off {w : World} {b size n bb : Nat} {e t : TypeId} {v : Value} {xs : List Value} {c : Array Value} {z : Nat × Nat} (ho : w.ownsRow b e size v n xs) (hb : w.heap[bb]? = some (.cells c t z)) (he : e ≠ t) : ∀ k, v.ownBlock = some k → ¬ k = bb := fun k hk e1 => by
  rcases own_ne_block ho hb he with h | h
  · rw [h] at hk; cases hk
  · exact h (e1 ▸ hk)
theorem own_news {w : World} {B n g cap : Nat} {e : TypeId} {cs : List Value} (h : w.ownsRow B e 1 (.slice (some ⟨g, 0, none⟩) n cap) n cs) (o : Obj) : ∀ j u, cs[j]? = some u → (w.alloc o).cell? ((⟨g, 0, none⟩ : Addr).add j) = some u :=
  (h.alloc o).cells (g := g) rfl
theorem own_free {w : World} {B n g cap i : Nat} {e : TypeId} {cs : List Value} (h : w.ownsRow B e 1 (.slice (some ⟨g, 0, none⟩) n cap) n cs) (_hn : i < n) : w.frozen? ⟨g, i, none⟩ = false := by
  rcases h.2 with ⟨h1, _⟩ | ⟨g', cap', cur, h1, h2, h3, _⟩
  · cases h1
  · simp only [Value.slice.injEq, Option.some.injEq, Addr.mk.injEq, true_and, and_true] at h1
    obtain ⟨rfl, -⟩ := h1
    exact frozen_of_row _ _ _ _ _ h3
theorem own_cell {w : World} {B n g cap i : Nat} {e : TypeId} {cs : List Value} {u : Value} (h : w.ownsRow B e 1 (.slice (some ⟨g, 0, none⟩) n cap) n cs) (hu : cs[i]? = some u) : w.cell? ⟨g, i, none⟩ = some u := by
  have := h.cells (g := g) rfl i u hu
  rwa [Addr.add_lit, Nat.zero_add] at this
theorem own_room {w : World} {B n g cap : Nat} {e : TypeId} {cs : List Value} (h : w.ownsRow B e 1 (.slice (some ⟨g, 0, none⟩) n cap) n cs) : n ≤ cap := by
  rcases h.2 with ⟨h1, _⟩ | ⟨g', cap', cur, h1, h2, h3, h4, _⟩
  · cases h1
  · simp only [Value.slice.injEq] at h1
    omega
/-- u is a slice that reads cs; nil, if it lies nowhere -/
def SlN (w : World) (u : Value) (cs : List Value) : Prop :=
  ∃ (a : Option Addr) (cap : Nat), u = .slice a cs.length cap ∧ (a = none → cap = 0) ∧ ∀ (i : Nat) (c : Value), cs[i]? = some c → ∃ g o, a = some ⟨g, o, none⟩ ∧ w.cell? ⟨g, o + i, none⟩ = some c
theorem SlN.slv {w : World} {u : Value} {cs : List Value} (h : SlN w u cs) : SlV w u cs := by
  obtain ⟨a, cap, h1, h2, h3⟩ := h
  exact ⟨a, cap, h1, h3⟩
theorem SlN.below {w w' : World} {u : Value} {cs : List Value} (h : SlN w u cs) (s : Below w.heap.size w w') : SlN w' u cs := by
  obtain ⟨a, cap, h1, h0, h2⟩ := h
  exact ⟨a, cap, h1, h0, fun i c hc => by obtain ⟨g, o, h3, h4⟩ := h2 i c hc; exact ⟨g, o, h3, (s.cell (World.block_lt_of_cell? w _ h4)).trans h4⟩⟩
theorem own_newsB {wc wr : World} {B n g cap : Nat} {e : TypeId} {cs : List Value} (h : wc.ownsRow B e 1 (.slice (some ⟨g, 0, none⟩) n cap) n cs) (hb : Below wc.heap.size wc wr) : ∀ j u, cs[j]? = some u → wr.cell? ((⟨g, 0, none⟩ : Addr).add j) = some u := fun j u hu => by
  have h1 := h.cells (g := g) rfl j u hu
  rw [Addr.add_lit] at h1 ⊢
  exact (hb.cell (h.lt g rfl).2).trans h1
theorem builtE (w : World) {B : Nat} (x : Value) (e : TypeId) (h : B ≤ w.heap.size) : (w.alloc (.cells #[x] e)).ownsRow B e 1 (.slice (some ⟨w.heap.size, 0, none⟩) 1 1) 1 [x] :=
  ⟨rfl, .inr ⟨w.heap.size, 1, #[x], rfl, h, heap_alloc_last w _, Nat.le_refl _, by unfold maxLen; omega, rfl, rfl⟩⟩
theorem addr_add (g o j : Nat) : (⟨g, o, none⟩ : Addr).add j = ⟨g, o + j, none⟩ := by unfold Addr.add; split <;> simp_all
theorem splice_all {Z cs : List Value} (_h : cs.length ≤ Z.length) : splice Z 0 cs = cs ++ Z.drop cs.length := by unfold splice; simp
theorem two_of {l : List Value} (h : l.length = 2) : ∃ a b, l = [a, b] := by
  match l, h with
  | [a, b], _ => exact ⟨a, b, rfl⟩
theorem run_copy_rowk {P : Program} (w : World) (dT sT ty elem : TypeId) (k g o dLen dCap : Nat) (a : Addr) (sLen sCap : Nat) (cur : Array Value) (t : TypeId) (cs : List Value) (n : Nat)
    (hu : P.underlying dT = some (.slice elem)) (hs : (P.info? elem).map (·.size) = some k)
    (hg : w.heap[g]? = some (.cells cur t (0, 0))) (hn : n = Nat.min sLen dLen) (hcs : cs.length = n * k)
    (hsrc : ∀ j v, cs[j]? = some v → w.cell? (a.add j) = some v) (hfit : o + cs.length ≤ cur.size) (h1 : ∀ v ∈ cs, v.oneCell' = true) :
    (Builtin.copy_ #[dT, sT] ty #[.slice (some ⟨g, o, none⟩) dLen dCap, .slice (some a) sLen sCap]).run P w =
      .ok (goInt n) (w.setRow g (cur.toList.take o ++ cs ++ cur.toList.drop (o + cs.length)).toArray) := by
  have hl := run_loadCells_list (P := P) w a cs hsrc
  have hst := run_storeCells_at P g o t cs 0 cur w hg (by simpa using hfit) h1
  rw [hcs] at hl
  cases hq : P.info? elem with
  | none => simp [hq] at hs
  | some i =>
    have hi : i.size = k := by simpa [hq] using hs
    simp [Builtin.copy_, run_underlying hu, Builtin.lenOf, Builtin.firstCells, sizeOf, typeInfo, hq, hi, ← hn, hl, hst]

/-- into a row of one's own, from its place off on -/
theorem wpList_copy_k {P : Program} {w : World} {ops : Array Oper} {rest : List Oper} {o : Oper} {a : Act} {Q : Exit → Act → World → Prop} (hgd : o.guard = none) (d s : Operand) (dT sT : TypeId)
    (ho : o.op = .call { callee := .builtin .copy, args := #[d, s], argTypes := #[dT, sT] }) (elem : TypeId) (k : Nat) (hu : P.underlying dT = some (.slice elem)) (hsz : (P.info? elem).map (·.size) = some k)
    (g off dLen dCap : Nat) (ad : Addr) (sLen sCap : Nat) (hd : a.eval d = .slice (some ⟨g, off, none⟩) dLen dCap) (hs : a.eval s = .slice (some ad) sLen sCap)
    (cur : List Value) (t : TypeId) (hg : w.heap[g]? = some (.cells cur.toArray t (0, 0))) (cs : List Value) (n : Nat) (hn : n = Nat.min sLen dLen) (hcs : cs.length = n * k)
    (hsrc : ∀ j v, cs[j]? = some v → w.cell? (ad.add j) = some v) (hfit : off + cs.length ≤ cur.length) (h1 : ∀ v ∈ cs, v.oneCell' = true) (B : Nat) (w0 : World) (hb : Below B w0 w) (hBg : B ≤ g)
    (h : ∀ w', Hid (w'.heap[g]? = some (.cells (splice cur off cs).toArray t (0, 0))) → Below B w0 w' → (w' = w.setRow g (splice cur off cs).toArray) → wpList P ops Q rest (a.put o.dst (goInt n)) w') : wpList P ops Q (o :: rest) a w := by
  refine wpList_plain hgd fun K hK => ?_
  have hrun := run_copy_rowk (P := P) w dT sT o.type elem k g off dLen dCap ad sLen sCap cur.toArray t cs n hu hsz hg hn hcs hsrc (by simpa using hfit) h1
  unfold Oper.wp
  simp [execOp, ho, resolve, invoke, builtin, hd, hs, hrun, Result.andThen]
  have h3 : ∀ w', w' = w.setRow g (cur.take off ++ (cs ++ cur.drop (off + cs.length))).toArray → K (a.put o.dst (goInt n)) w' := by
    rintro w' rfl
    exact hK _ _ (h _ (show _ = _ by simpa [splice] using setRow_heap w g _ _ t _ hg) (below_setRow hb hBg _) rfl)
  refine h3 _ ?_
  simp
theorem run_copy_nonek {P : Program} (w : World) (dT sT ty elem : TypeId) (k : Nat) (d a : Option Addr) (dLen dCap sLen sCap : Nat) (hu : P.underlying dT = some (.slice elem)) (hs : (P.info? elem).map (·.size) = some k) (hn : Nat.min sLen dLen = 0) :
    (Builtin.copy_ #[dT, sT] ty #[.slice d dLen dCap, .slice a sLen sCap]).run P w = .ok (goInt 0) w := by
  cases hq : P.info? elem with
  | none => simp [hq] at hs
  | some i =>
    have hl : ∀ (x : Addr), (loadCells x 0).run P w = .ok #[] w := fun x => by simpa using run_loadCells_list (P := P) w x [] (by simp)
    cases d <;> cases a <;> simp [Builtin.copy_, run_underlying hu, Builtin.lenOf, Builtin.firstCells, sizeOf, typeInfo, hq, hn, storeCells, hl]
theorem But.setRow {w : World} (g : Nat) (cs : Array Value) : But (· = g) w (w.setRow g cs) :=
  ⟨rfl, rfl, rfl, by simp [World.setRow], fun k _ hs => setRow_other w g k cs hs⟩
/-- copy: the place and the cells are given -/
theorem wpList_copy_kk {P : Program} {w : World} {ops : Array Oper} {rest : List Oper} {o : Oper} {a : Act} {Q : Exit → Act → World → Prop} (hgd : o.guard = none) (d s : Operand) (dT sT : TypeId)
    (ho : o.op = .call { callee := .builtin .copy, args := #[d, s], argTypes := #[dT, sT] }) (elem : TypeId) (k : Nat) (hu : P.underlying dT = some (.slice elem)) (hsz : (P.info? elem).map (·.size) = some k)
    (dp sp : Option Addr) (dLen dCap sLen sCap : Nat) (hd : a.eval d = .slice dp dLen dCap) (hs : a.eval s = .slice sp sLen sCap)
    (g off : Nat) (cur : List Value) (t : TypeId) (hg : w.heap[g]? = some (.cells cur.toArray t (0, 0))) (cs : List Value) (n : Nat) (hn : n = Nat.min sLen dLen) (hcs : cs.length = n * k)
    (hpos : 0 < n → dp = some ⟨g, off, none⟩ ∧ ∃ ad, sp = some ad ∧ ∀ j v, cs[j]? = some v → w.cell? (ad.add j) = some v)
    (hfit : off + cs.length ≤ cur.length) (h1 : ∀ v ∈ cs, v.oneCell' = true)
    (h : ∀ w', Hid (w'.heap[g]? = some (.cells (splice cur off cs).toArray t (0, 0))) → Hid (But (· = g) w w') → wpList P ops Q rest (a.put o.dst (goInt n)) w') : wpList P ops Q (o :: rest) a w := by
  refine wpList_plain hgd fun K hK => ?_
  by_cases h0 : n = 0
  · subst h0
    obtain rfl : cs = [] := List.eq_nil_of_length_eq_zero (by omega)
    have hrun := run_copy_nonek (P := P) w dT sT o.type elem k dp sp dLen dCap sLen sCap hu hsz hn.symm
    unfold Oper.wp
    simp [execOp, ho, resolve, invoke, builtin, hd, hs, hrun, Result.andThen]
    exact hK _ _ (h w (show _ = _ by simpa [splice] using hg) (But.refl _ w))
  · obtain ⟨rfl, ad, rfl, hsrc⟩ := hpos (by omega)
    have hrun := run_copy_rowk (P := P) w dT sT o.type elem k g off dLen dCap ad sLen sCap cur.toArray t cs n hu hsz hg hn hcs hsrc (by simpa using hfit) h1
    unfold Oper.wp
    simp [execOp, ho, resolve, invoke, builtin, hd, hs, hrun, Result.andThen]
    have h3 : ∀ w', w' = w.setRow g (cur.take off ++ (cs ++ cur.drop (off + cs.length))).toArray → K (a.put o.dst (goInt n)) w' := by
      rintro w' rfl
      exact hK _ _ (h _ (show _ = _ by simpa [splice] using setRow_heap w g _ _ t _ hg) (But.setRow g _))
    refine h3 _ ?_
    simp
theorem splice_two {α : Type} {Z c1 c2 : List α} (h : Z.length = c1.length + c2.length) : splice (splice Z 0 c1) c1.length c2 = c1 ++ c2 := by
  unfold splice
  simp
  omega
/-- two rows that differ in no more than block g -/
theorem But.more {S : Nat → Prop} {w W w' : World} {g : Nat} (h : But S w W) (hg : w.heap.size ≤ g) (hb : But (· = g) W w') : But S w w' :=
  ⟨hb.os.trans h.os, hb.tape.trans h.tape, hb.output.trans h.output, Nat.le_trans h.size hb.size, fun k hk hs => (hb.block k (Nat.lt_of_lt_of_le hk h.size) (by omega)).trans (h.block k hk hs)⟩
theorem But.below' {w W w' : World} {g B : Nat} (h : Below B w W) (hg : B ≤ g) (hB : B ≤ W.heap.size) (hb : But (· = g) W w') : Below B w w' :=
  ⟨hb.os.trans h.os, hb.tape.trans h.tape, hb.output.trans h.output, Nat.le_trans h.size hb.size, fun k hk => (hb.block k (by omega) (by omega)).trans (h.block k hk)⟩
theorem own_shape {w : World} {B s n : Nat} {e : TypeId} {cs : List Value} {v : Value} (h : w.ownsRow B e s v n cs) (hn : n ≠ 0) : ∃ g cap, v = .slice (some ⟨g, 0, none⟩) n cap := by
  rcases h.2 with ⟨_, h0⟩ | ⟨g, cap, cur, h9, _⟩
  · exact absurd h0 hn
  · exact ⟨g, cap, h9⟩
theorem own_cells {w : World} {B s g cap n i : Nat} {e : TypeId} {cs : List Value} {u : Value} (h : w.ownsRow B e s (.slice (some ⟨g, 0, none⟩) n cap) n cs) (hu : cs[i]? = some u) : w.cell? ⟨g, i, none⟩ = some u := by
  have := h.cells (g := g) rfl i u hu
  rwa [Addr.add_lit, Nat.zero_add] at this
theorem own_len {w : World} {B s n : Nat} {e : TypeId} {cs : List Value} {v : Value} (h : w.ownsRow B e s v n cs) : ∃ a c, v = .slice a n c := by
  rcases h.2 with ⟨h1, h0⟩ | ⟨g, cap, cur, h9, _⟩
  · exact ⟨none, 0, by rw [h1, h0]⟩
  · exact ⟨_, cap, h9⟩
theorem own_get {w : World} {B n i : Nat} {e : TypeId} {cs : List Value} {u : Value} {a : Option Addr} {c : Nat} (h : w.ownsRow B e 1 (.slice a n c) n cs) (hn : n = cs.length) (hi : cs[i]? = some u) : ∃ g, a = some ⟨g, 0, none⟩ ∧ w.cell? ⟨g, i, none⟩ = some u := by
  have hlt := (List.getElem?_eq_some_iff.1 hi).1
  obtain ⟨g, cap, h9⟩ := own_shape h (by omega)
  simp only [Value.slice.injEq] at h9
  obtain ⟨rfl, -, rfl⟩ := h9
  exact ⟨g, rfl, own_cell h hi⟩
theorem own_room2 {w : World} {B s n g cap : Nat} {e : TypeId} {cs : List Value} (h : w.ownsRow B e s (.slice (some ⟨g, 0, none⟩) n cap) n cs) : n ≤ cap := by
  rcases h.2 with ⟨h1, _⟩ | ⟨g', cap', cur, h1, h2, h3, h4, _⟩
  · cases h1
  · simp only [Value.slice.injEq] at h1
    omega
theorem region_still {P : Program} {id : Nat} {Q : Exit → Act → World → Prop} {a : Act} {w : World} {l : List Oper} (hm : P.follows .mixedOrders = true) (hB : Region.lexB .any l.toArray = true)
    (h : wpStill P l.toArray w.drew (fun a' => Q .normal a' w.drew) l a) : (Code.region id l.toArray true).wp P Q a w :=
  wp_region_still_lit hm hB h
theorem results_tmp4 {fn : Func} {t u v x : Tmp} (h : fn.results = #[.tmp t, .tmp u, .tmp v, .tmp x]) (tmps : Array Value) (P : Program) (w : World) :
    (results fn tmps).run P w = .ok (.tuple #[tmps.getD t undef, tmps.getD u undef, tmps.getD v undef, tmps.getD x undef]) w := by
  simp [results, h]
theorem But.two {S T : Nat → Prop} {a w : World} (h : But S a w) (hST : ∀ k, S k → T k) : But T a w := ⟨h.os, h.tape, h.output, h.size, fun k hk hs => h.block k hk fun e => hs (hST k e)⟩
end Go.Proofs.Ytefigjdebakccaa
