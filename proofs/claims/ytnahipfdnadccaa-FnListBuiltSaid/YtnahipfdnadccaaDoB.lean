/- spec.ListDo: the words of its walks. Conditions of this file: none.

spec.ListDo: the kinds 0 to 3. Conditions of this file: none.

spec.ListDo: the kinds 4 and 5. Conditions of this file: none. -/
import Derived.Test.YtnahipfdnadccaaCap
import Derived.Deep.DeepCutAuto
import Derived.Deep.CutBlock
import Derived.Deep.LoopGhost
import Derived.Laws.AppendOwnNone
namespace Go.Proofs.Ytnahipfdnadccaa
open Go.RowKit

/-- u is a slice that reads cs; nil, if it lies nowhere -/
def SlN (w : World) (u : Value) (cs : List Value) : Prop :=
  ∃ (a : Option Addr) (cap : Nat), u = .slice a cs.length cap ∧ (a = none → cap = 0) ∧ ∀ (i : Nat) (c : Value), cs[i]? = some c → ∃ g o, a = some ⟨g, o, none⟩ ∧ w.cell? ⟨g, o + i, none⟩ = some c
/-- u is a slice that lies in a row of whole numbers, and reads cs -/
def SlS (w : World) (u : Value) (cs : List Value) : Prop :=
  ∃ (g o cap : Nat) (cur : Array Value), u = .slice (some ⟨g, o, none⟩) cs.length cap ∧ w.heap[g]? = some (.cells cur 2 (0, 0)) ∧ ∀ (i : Nat) (c : Value), cs[i]? = some c → w.cell? ⟨g, o + i, none⟩ = some c
/-- it stays where rows of whole numbers stay -/
theorem SlS.keep {w w' : World} {u : Value} {cs : List Value} (h : SlS w u cs) (s : ∀ (g : Nat) (cur : Array Value), w.heap[g]? = some (Obj.cells cur 2 (0, 0)) → w'.heap[g]? = w.heap[g]?) : SlS w' u cs := by
  obtain ⟨g, o, cap, cur, h1, h2, h3⟩ := h
  exact ⟨g, o, cap, cur, h1, (s g cur h2).trans h2, fun i c hc => (World.cell?_of_block (s g cur h2)).trans (h3 i c hc)⟩
theorem SlS.below {w w' : World} {u : Value} {cs : List Value} (h : SlS w u cs) (s : Below w.heap.size w w') : SlS w' u cs := h.keep fun g _ hg => s.block g (lt_of_block hg)
theorem SlS.slv {w : World} {u : Value} {cs : List Value} (h : SlS w u cs) : SlV w u cs := by
  obtain ⟨g, o, cap, cur, h1, h2, h3⟩ := h
  exact ⟨_, cap, h1, fun i c hc => ⟨g, o, rfl, h3 i c hc⟩⟩
theorem SlS.sln {w : World} {u : Value} {cs : List Value} (h : SlS w u cs) : SlN w u cs := by
  obtain ⟨g, o, cap, cur, h1, h2, h3⟩ := h
  exact ⟨_, cap, h1, nofun, fun i c hc => ⟨g, o, rfl, h3 i c hc⟩⟩
theorem SlN.slv {w : World} {u : Value} {cs : List Value} (h : SlN w u cs) : SlV w u cs := by
  obtain ⟨a, cap, h1, h2, h3⟩ := h
  exact ⟨a, cap, h1, h3⟩
theorem SlN.below {w w' : World} {u : Value} {cs : List Value} (h : SlN w u cs) (s : Below w.heap.size w w') : SlN w' u cs := by
  obtain ⟨a, cap, h1, h0, h2⟩ := h
  exact ⟨a, cap, h1, h0, fun i c hc => by obtain ⟨g, o, h3, h4⟩ := h2 i c hc; exact ⟨g, o, h3, (s.cell (World.block_lt_of_cell? w _ h4)).trans h4⟩⟩

theorem SlS.of_own {w : World} {B n g cap : Nat} {cs : List Value} (h : w.ownsRow B 2 1 (.slice (some ⟨g, 0, none⟩) n cap) n cs) : SlS w (.slice (some ⟨g, 0, none⟩) n cap) cs := by
  have hn : cs.length = n := by simpa using h.1
  obtain ⟨cur, hcur⟩ : ∃ cur, w.heap[g]? = some (.cells cur 2 (0, 0)) := by
    rcases h.2 with ⟨h1, _⟩ | ⟨g', cap', cur, h1, h2, h3, _⟩
    · cases h1
    · simp only [Value.slice.injEq, Option.some.injEq, Addr.mk.injEq, and_true] at h1
      obtain ⟨rfl, -⟩ := h1
      exact ⟨cur, h3⟩
  refine ⟨g, 0, cap, cur, by rw [hn], hcur, fun i c hc => ?_⟩
  have := h.cells (g := g) rfl i c hc
  rwa [Addr.add_lit] at this

/-- what ListDo answers -/
def DoPost (w : World) (xs : List Int) (k : Nat) (I E V : Int) (e : Ending) (w' : World) : Prop :=
  ∃ v, e = .returned (.tuple #[v, .bool (stepOf xs k I E V).isSome]) ∧ SlS w' v (((stepOf xs k I E V).getD xs).map (Value.int .i64)) ∧ Below w.heap.size w w'

theorem made0 (w : World) (st : Array Value) : ((w.alloc (.cells st 42)).alloc (.cells #[] 2)).ownsRow w.heap.size 2 1 (.slice (some ⟨w.heap.size + 1, 0, none⟩) 0 0) 0 [] := by
  have := World.ownsRow_made (base := w.heap.size) (e := 2) (size := 1) (w.alloc (.cells st 42)) #[] 0 (by simp) (by decide) rfl
  simpa using this

/-- the copy that ListDo begins with -/
def DoAt (w : World) (st : Array Value) (xs : List Int) (v : Value) (w' : World) : Prop :=
  ∃ g cap, v = .slice (some ⟨g, 0, none⟩) xs.length cap ∧ w'.ownsRow w.heap.size 2 1 (.slice (some ⟨g, 0, none⟩) xs.length cap) xs.length (xs.map (Value.int .i64)) ∧ Below w.heap.size w w' ∧
    w'.heap[w.heap.size]? = some (.cells st 42 (0, 0)) ∧ g ≠ w.heap.size

theorem do_at0 (w : World) (st : Array Value) : DoAt w st [] (.slice (some ⟨w.heap.size + 1, 0, none⟩) 0 0) ((w.alloc (.cells st 42)).alloc (.cells #[] 2)) :=
  ⟨w.heap.size + 1, 0, rfl, made0 w st, ((Below.refl _ w).alloc (Nat.le_refl _) _).alloc (by simp) _, by
    rw [Below.heap_alloc _ _ _ (by simp)]; exact heap_alloc_last w _, by omega⟩

theorem do_at1 {w v1w : World} {st : Array Value} {xs : List Int} {v1 : Value} (h : v1w.ownsRow w.heap.size 2 1 v1 xs.length (xs.map (Value.int .i64)))
    (hg : ((w.alloc (.cells st 42)).alloc (.cells #[] 2)).grownBy v1w (Value.ownBlock (.slice (some ⟨w.heap.size + 1, 0, none⟩) 0 0)))
    (hn : ¬ v1 = .slice none 0 0) : DoAt w st xs v1 v1w := by
  have hB : Below w.heap.size w v1w := Below.grown (((Below.refl _ w).alloc (Nat.le_refl _) (.cells st 42)).alloc (by simp) (.cells #[] 2)) hg (by simp; omega) (fun k hk => by
    simp only [Value.ownBlock, Option.some.injEq] at hk; omega)
  have hst : v1w.heap[w.heap.size]? = some (.cells st 42 (0, 0)) := by
    rw [hg.block w.heap.size (by simp; omega) (by simp [Value.ownBlock]), Below.heap_alloc _ _ _ (by simp)]; exact heap_alloc_last w _
  rcases h.2 with ⟨h1, _⟩ | ⟨g, cap, cur, h1, h2, h3, _⟩
  · exact absurd h1 hn
  · refine ⟨g, cap, h1, h1 ▸ h, hB, hst, fun e => ?_⟩
    rw [e, hst] at h3
    simp only [Option.some.injEq, Obj.cells.injEq] at h3
    exact absurd h3.2.1 (by decide)

theorem ints_one (xs : List Int) : ∀ u ∈ xs.map (Value.int .i64), u.oneCell' = true := fun u hu => by
  obtain ⟨x, _, rfl⟩ := List.mem_map.1 hu
  rfl

theorem do_news {w : World} {st : Array Value} {ad : Addr} {xs : List Int} {n cap : Nat} (h : SlN w (.slice (some ad) (xs.map (Value.int .i64)).length cap) (xs.map (Value.int .i64))) (_ : n = (xs.map (Value.int .i64)).length) :
    ∀ j u, (xs.map (Value.int .i64))[j]? = some u → ((w.alloc (.cells st 42)).alloc (.cells #[] 2)).cell? (ad.add j) = some u := fun j u hu => by
  obtain ⟨a, c, h1, _, h2⟩ := h
  obtain ⟨g, o, h3, h4⟩ := h2 j u hu
  simp only [Value.slice.injEq] at h1
  obtain ⟨h1, -⟩ := h1
  rw [h3] at h1
  simp only [Option.some.injEq] at h1
  subst h1
  have hB : Below w.heap.size w ((w.alloc (.cells st 42)).alloc (.cells #[] 2)) := ((Below.refl _ w).alloc (Nat.le_refl _) _).alloc (by simp) _
  rw [Addr.add_lit]
  exact (hB.cell (World.block_lt_of_cell? w _ h4)).trans h4


/-- behind one append to the copy -/
theorem do_end {w w2 A : World} {v2 : Value} {g gc n m k : Nat} {xs ys : List Int} {I E V : Int} {zs : List Value} (hB : Below w.heap.size w A) (hgr : A.grownBy w2 (Value.ownBlock (.slice (some ⟨g, 0, none⟩) m gc))) (hg : w.heap.size ≤ g)
    (ho : w2.ownsRow w.heap.size 2 1 v2 n zs) (hn : ¬ v2 = .slice none 0 0) (hz : zs = ys.map (Value.int .i64)) (hs : stepOf xs k I E V = some ys) :
    DoPost w xs k I E V (.returned (.tuple #[v2, .bool true])) w2 := by
  subst hz
  refine ⟨v2, by rw [hs]; rfl, ?_, Below.grown hB hgr (hB.size) fun k hk => ?_⟩
  · rw [hs]
    rcases ho.2 with ⟨h1, _⟩ | ⟨g', cap, cur, h1, h2, h3, _⟩
    · exact absurd h1 hn
    · subst h1
      have hl : ys.length = n := by have := ho.1; simpa using this
      exact SlS.of_own ho
  · simp only [Value.ownBlock, Option.some.injEq] at hk; omega

/-- a slice that was built with one item is the call's own -/
theorem built1 (w : World) {B : Nat} (x : Value) (h : B ≤ w.heap.size) : (w.alloc (.cells #[x] 2)).ownsRow B 2 1 (.slice (some ⟨w.heap.size, 0, none⟩) 1 1) 1 [x] :=
  ⟨rfl, .inr ⟨w.heap.size, 1, #[x], rfl, h, heap_alloc_last w _, Nat.le_refl _, by unfold maxLen; omega, rfl, rfl⟩⟩
theorem own_news {w : World} {B n g cap : Nat} {e : TypeId} {cs : List Value} (h : w.ownsRow B e 1 (.slice (some ⟨g, 0, none⟩) n cap) n cs) (o : Obj) : ∀ j u, cs[j]? = some u → (w.alloc o).cell? ((⟨g, 0, none⟩ : Addr).add j) = some u :=
  (h.alloc o).cells (g := g) rfl

theorem own_free {w : World} {B n g cap i : Nat} {e : TypeId} {cs : List Value} (h : w.ownsRow B e 1 (.slice (some ⟨g, 0, none⟩) n cap) n cs) (_hn : i < n) : w.frozen? ⟨g, i, none⟩ = false := by
  rcases h.2 with ⟨h1, _⟩ | ⟨g', cap', cur, h1, h2, h3, _⟩
  · cases h1
  · simp only [Value.slice.injEq, Option.some.injEq, Addr.mk.injEq, true_and, and_true] at h1
    obtain ⟨rfl, -⟩ := h1
    exact frozen_of_row _ _ _ _ _ h3
theorem own_cell {w : World} {B n g cap i : Nat} {e : TypeId} {cs : List Value} {u : Value} (h : w.ownsRow B e 1 (.slice (some ⟨g, 0, none⟩) n cap) n cs) (hu : cs[i]? = some u) : w.cell? ⟨g, i, none⟩ = some u := by
  have := h.cells (g := g) rfl i u hu
  rwa [Addr.add_lit, Nat.zero_add] at this
theorem own_room {w : World} {B n g cap : Nat} {e : TypeId} {cs : List Value} (h : w.ownsRow B e 1 (.slice (some ⟨g, 0, none⟩) n cap) n cs) : n ≤ cap := by
  rcases h.2 with ⟨h1, _⟩ | ⟨g', cap', cur, h1, h2, h3, h4, _⟩
  · cases h1
  · simp only [Value.slice.injEq] at h1
    omega

/-- the copy, one item of it written -/
theorem do_set {w wc : World} {xs : List Int} {g gc i : Nat} {E V : Int} (hB : Below w.heap.size w wc) (ho : wc.ownsRow w.heap.size 2 1 (.slice (some ⟨g, 0, none⟩) xs.length gc) xs.length (xs.map (Value.int .i64))) (hi : i < xs.length) :
    DoPost w xs 2 i E V (.returned (.tuple #[.slice (some ⟨g, 0, none⟩) xs.length gc, .bool true])) (wc.setCell ⟨g, i, none⟩ (.int .i64 V)) := by
  have hs : stepOf xs 2 i E V = some (xs.set i V) := by
    unfold stepOf
    rw [if_neg (by decide), if_neg (by decide), if_pos rfl, if_pos (by omega)]
    simp
  refine ⟨_, by rw [hs]; rfl, ?_, hB.setCell (ho.lt g rfl).1 _⟩
  rw [hs]
  obtain ⟨cur, hcur⟩ : ∃ cur, wc.heap[g]? = some (.cells cur 2 (0, 0)) := by
    obtain ⟨_, _, _, cur, h1, h2, _⟩ := SlS.of_own ho
    simp only [Value.slice.injEq, Option.some.injEq, Addr.mk.injEq, and_true] at h1
    obtain ⟨⟨rfl, -⟩, -⟩ := h1
    exact ⟨cur, h2⟩
  refine ⟨g, 0, gc, _, by simp, heap_setCell_same _ _ _ _ _ _ hcur, fun j c hc => ?_⟩
  rw [Nat.zero_add]
  simp only [Option.getD_some, List.getElem?_map, Option.map_eq_some_iff] at hc
  obtain ⟨y, hy, rfl⟩ := hc
  by_cases e : i = j
  · subst e
    rw [List.getElem?_set_self hi] at hy
    cases hy
    obtain ⟨x, hx⟩ : ∃ x, xs[i]? = some x := ⟨xs[i], List.getElem?_eq_getElem hi⟩
    exact World.cell?_setCell_same _ _ _ (own_cell ho (u := .int .i64 x) (by rw [List.getElem?_map, hx]; rfl))
  · rw [List.getElem?_set_ne e] at hy
    rw [World.cell?_setCell_other _ _ _ _ (fun h => e (Addr.mk.inj h).2.1)]
    exact own_cell ho (by rw [List.getElem?_map, hy]; rfl)

/-- the copy as it is -/
theorem do_same {w wc : World} {xs : List Int} {g gc k : Nat} {I E V : Int} (hB : Below w.heap.size w wc) (ho : wc.ownsRow w.heap.size 2 1 (.slice (some ⟨g, 0, none⟩) xs.length gc) xs.length (xs.map (Value.int .i64))) (hs : stepOf xs k I E V = none) :
    DoPost w xs k I E V (.returned (.tuple #[.slice (some ⟨g, 0, none⟩) xs.length gc, .bool false])) wc := by
  refine ⟨_, by rw [hs]; rfl, ?_, hB⟩
  rw [hs]
  exact SlS.of_own ho

/-- a part of the copy -/
theorem do_cut {w wc : World} {xs : List Int} {g gc lo hi : Nat} {V : Int} (hB : Below w.heap.size w wc) (ho : wc.ownsRow w.heap.size 2 1 (.slice (some ⟨g, 0, none⟩) xs.length gc) xs.length (xs.map (Value.int .i64))) (h1 : lo ≤ hi) (h2 : hi ≤ xs.length) :
    ∃ a' c', (∀ w', (Instr.sliceAt 32 (.slice (some ⟨g, 0, none⟩) xs.length gc) (some (.int .i64 (lo : Int))) (some (.int .i64 (hi : Int))) none).run Try.prog w' = .ok (.slice (some a') (hi - lo) c') w') ∧
      DoPost w xs 3 lo hi V (.returned (.tuple #[.slice (some a') (hi - lo) c', .bool true])) wc := by
  have hs : stepOf xs 3 lo hi V = some ((xs.drop lo).take (hi - lo)) := by
    unfold stepOf
    rw [if_neg (by decide), if_neg (by decide), if_neg (by decide), if_pos rfl, if_pos (by omega)]
    simp
  have hr := own_room ho
  refine ⟨⟨g, if gc = lo then 0 else lo, none⟩, gc - lo, fun w' => ?_, _, by rw [hs]; rfl, ?_, hB⟩
  · rw [run_sliceAt_slice w' 32 _ _ _ _ und32, run_slice_lh w' 32 _ _ gc und32 .i64 .i64 lo hi (by omega) (by omega) (by omega), size32]
    simp only [Result.andThen_ok, sliced, Int.toNat_natCast]
    by_cases e : gc = lo
    · rw [if_pos e, if_pos e]
    · rw [if_neg e, if_neg e, Option.map_some, Addr.add_lit, Nat.zero_add, Nat.mul_one]
  · rw [hs]
    have hl : (((xs.drop lo).take (hi - lo)).map (Value.int .i64)).length = hi - lo := by simp; omega
    obtain ⟨cur, hcur⟩ : ∃ cur, wc.heap[g]? = some (.cells cur 2 (0, 0)) := by
      obtain ⟨_, _, _, cur, h1, h2, _⟩ := SlS.of_own ho
      simp only [Value.slice.injEq, Option.some.injEq, Addr.mk.injEq, and_true] at h1
      obtain ⟨⟨rfl, -⟩, -⟩ := h1
      exact ⟨cur, h2⟩
    refine ⟨g, _, gc - lo, cur, by rw [Option.getD_some, hl], hcur, fun j c hc => ?_⟩
    simp only [Option.getD_some, List.getElem?_map, Option.map_eq_some_iff] at hc
    obtain ⟨y, hy, rfl⟩ := hc
    rw [List.getElem?_take] at hy
    split at hy
    · rw [List.getElem?_drop] at hy
      have hjl : lo + j < xs.length := (List.getElem?_eq_some_iff.1 hy).1
      rw [if_neg (by omega)]
      exact own_cell ho (by rw [List.getElem?_map, hy]; rfl)
    · cases hy

theorem do_cut' {w wc : World} {xs : List Int} {g gc : Nat} {I E V : Int} (hB : Below w.heap.size w wc) (ho : wc.ownsRow w.heap.size 2 1 (.slice (some ⟨g, 0, none⟩) xs.length gc) xs.length (xs.map (Value.int .i64))) (h0 : 0 ≤ I) (h1 : I ≤ E) (h2 : E ≤ xs.length) :
    ∃ a' n' c', (∀ w', (Instr.sliceAt 32 (.slice (some ⟨g, 0, none⟩) xs.length gc) (some (.int .i64 I)) (some (.int .i64 E)) none).run Try.prog w' = .ok (.slice (some a') n' c') w') ∧
      DoPost w xs 3 I E V (.returned (.tuple #[.slice (some a') n' c', .bool true])) wc := by
  obtain ⟨lo, rfl⟩ : ∃ i : Nat, I = i := ⟨I.toNat, by omega⟩
  obtain ⟨hi, rfl⟩ : ∃ i : Nat, E = i := ⟨E.toNat, by omega⟩
  obtain ⟨a', c', h3, h4⟩ := do_cut (V := V) hB ho (lo := lo) (hi := hi) (by omega) (by omega)
  exact ⟨a', _, c', h3, h4⟩

/-- one item behind the copy -/
theorem do_push {w wr w2 : World} {st : Array Value} {ys : List Int} {y : Int} {g gc n : Nat} {zs : List Value} {v2 : Value} (hB : Below w.heap.size w wr) (hbs : wr.heap[w.heap.size]? = some (.cells st 42 (0, 0))) (hgb : g ≠ w.heap.size)
    (ho : wr.ownsRow w.heap.size 2 1 (.slice (some ⟨g, 0, none⟩) ys.length gc) ys.length (ys.map (Value.int .i64)))
    (hg : (wr.alloc (.cells #[.int .i64 y] 2)).grownBy w2 (Value.ownBlock (.slice (some ⟨g, 0, none⟩) ys.length gc))) (ho2 : w2.ownsRow w.heap.size 2 1 v2 n zs) (hz : zs = (ys ++ [y]).map (Value.int .i64)) (hn : ¬ v2 = .slice none 0 0) :
    DoAt w st (ys ++ [y]) v2 w2 := by
  subst hz
  have hl : (ys ++ [y]).length = n := by have := ho2.1; simpa using this
  have hB2 : Below w.heap.size w w2 := Below.grown (hB.alloc hB.size (.cells #[.int .i64 y] 2)) hg (by have := hB.size; simp; omega) fun k hk => by
    simp only [Value.ownBlock, Option.some.injEq] at hk
    have := (ho.lt g rfl).1
    omega
  have hst : w2.heap[w.heap.size]? = some (.cells st 42 (0, 0)) := by
    have := lt_of_block hbs
    rw [hg.block w.heap.size (by simp; omega) (by simp [Value.ownBlock]; omega), Below.heap_alloc _ _ _ this]; exact hbs
  rcases ho2.2 with ⟨h1, _⟩ | ⟨g', cap, cur, h1, h2, h3, _⟩
  · exact absurd h1 hn
  · subst hl
    refine ⟨g', cap, h1, h1 ▸ ho2, hB2, hst, fun e => ?_⟩
    rw [e, hst] at h3
    simp only [Option.some.injEq, Obj.cells.injEq] at h3
    exact absurd h3.2.1 (by decide)
theorem do_done {w wr : World} {st : Array Value} {xs ys : List Int} {v : Value} {k : Nat} {I E V : Int} (h : DoAt w st ys v wr) (hs : stepOf xs k I E V = some ys) : DoPost w xs k I E V (.returned (.tuple #[v, .bool true])) wr := by
  obtain ⟨g, cap, rfl, ho, hb, _⟩ := h
  refine ⟨_, by rw [hs]; rfl, ?_, hb⟩
  rw [hs]
  exact SlS.of_own ho

/-- the front that a step of kind 5 makes -/
def FrL (wc : World) (ys : List Int) (v : Value) (wr : World) : Prop :=
  ∃ g c, v = .slice (some ⟨g, 0, none⟩) ys.length c ∧ wr.ownsRow wc.heap.size 2 1 (.slice (some ⟨g, 0, none⟩) ys.length c) ys.length (ys.map (Value.int .i64)) ∧ Below wc.heap.size wc wr
theorem fr_push {wc wr w2 : World} {ys : List Int} {y : Int} {g gc n : Nat} {zs : List Value} {v2 : Value} (hB : Below wc.heap.size wc wr)
    (ho : wr.ownsRow wc.heap.size 2 1 (.slice (some ⟨g, 0, none⟩) ys.length gc) ys.length (ys.map (Value.int .i64)))
    (hg : (wr.alloc (.cells #[.int .i64 y] 2)).grownBy w2 (Value.ownBlock (.slice (some ⟨g, 0, none⟩) ys.length gc))) (ho2 : w2.ownsRow wc.heap.size 2 1 v2 n zs) (hz : zs = (ys ++ [y]).map (Value.int .i64)) (hn : ¬ v2 = .slice none 0 0) :
    FrL wc (ys ++ [y]) v2 w2 := by
  subst hz
  have hl : (ys ++ [y]).length = n := by have := ho2.1; simpa using this
  have hB2 : Below wc.heap.size wc w2 := Below.grown (hB.alloc hB.size (.cells #[.int .i64 y] 2)) hg (by have := hB.size; simp; omega) fun k hk => by
    simp only [Value.ownBlock, Option.some.injEq] at hk
    have := (ho.lt g rfl).1
    omega
  rcases ho2.2 with ⟨h1, _⟩ | ⟨g', cap, cur, h1, h2, h3, _⟩
  · exact absurd h1 hn
  · subst hl
    exact ⟨g', cap, h1, h1 ▸ ho2, hB2⟩
theorem fr_done {w wc wr w2 : World} {xs ys : List Int} {g gc n : Nat} {zs : List Value} {v2 : Value} {I E V : Int} (hW : Below w.heap.size w wc) (hB : Below wc.heap.size wc wr)
    (ho : wr.ownsRow wc.heap.size 2 1 (.slice (some ⟨g, 0, none⟩) ys.length gc) ys.length (ys.map (Value.int .i64)))
    (hg : wr.grownBy w2 (Value.ownBlock (.slice (some ⟨g, 0, none⟩) ys.length gc))) (ho2 : w2.ownsRow wc.heap.size 2 1 v2 n zs) (hz : zs = (ys ++ xs).map (Value.int .i64)) (hn : ¬ v2 = .slice none 0 0) (hs : stepOf xs 5 I E V = some (ys ++ xs)) :
    DoPost w xs 5 I E V (.returned (.tuple #[v2, .bool true])) w2 := by
  subst hz
  have hl : (ys ++ xs).length = n := by have := ho2.1; simpa using this
  have hB2 : Below wc.heap.size wc w2 := Below.grown hB hg (hB.size) fun k hk => by
    simp only [Value.ownBlock, Option.some.injEq] at hk
    have := (ho.lt g rfl).1
    omega
  refine ⟨v2, by rw [hs]; rfl, ?_, hW.trans (hB2.mono hW.size)⟩
  rw [hs]
  rcases ho2.2 with ⟨h1, _⟩ | ⟨g', cap, cur, h1, h2, h3, _⟩
  · exact absurd h1 hn
  · subst h1
    subst hl
    exact SlS.of_own ho2

theorem up_rev {N m : Nat} (V : Int) (h : m < N) : (up N V).reverse.take (m + 1) = (up N V).reverse.take m ++ [wrap64 (V + ((N : Int) - 1 - m))] := by
  have hl : (up N V).length = N := by simp [up]
  have hm : m < (up N V).reverse.length := by rw [List.length_reverse, hl]; exact h
  rw [List.take_add_one, List.getElem?_eq_getElem hm, List.getElem_reverse]
  simp only [up, List.length_map, List.length_range, List.getElem_map, List.getElem_range, Option.toList_some]
  congr 4
  omega

theorem own_newsB {wc wr : World} {B n g cap : Nat} {e : TypeId} {cs : List Value} (h : wc.ownsRow B e 1 (.slice (some ⟨g, 0, none⟩) n cap) n cs) (hb : Below wc.heap.size wc wr) : ∀ j u, cs[j]? = some u → wr.cell? ((⟨g, 0, none⟩ : Addr).add j) = some u := fun j u hu => by
  have h1 := h.cells (g := g) rfl j u hu
  rw [Addr.add_lit] at h1 ⊢
  exact (hb.cell (h.lt g rfl).2).trans h1

end Go.Proofs.Ytnahipfdnadccaa

namespace Go.Proofs.Ytnahipfdnadccaa
open Go.RowKit

set_option maxRecDepth 100000 in
set_option maxHeartbeats 1600000 in
theorem do_w0 (u : Value) (xs : List Int) (F I E V : Int) (w : World) (hs : SlN w u (xs.map (Value.int .i64))) (hl : xs.length ≤ 2147483647) :
    Calls Try.prog 32 #[u, .agg #[.int .u8 0, .int .i64 F, .int .i64 I, .int .i64 E, .int .i64 V]] w (DoPost w xs 0 I E V) := by
  obtain ⟨i2, hi, hz0, hz1, hz2⟩ := info_parts info2
  have HI := Lib.hid (And.intro hi (And.intro hz0 (And.intro hz1 hz2)))
  clear hi hz0 hz1 hz2
  have hown0 := made0 w #[.int .u8 0, .int .i64 F, .int .i64 I, .int .i64 E, .int .i64 V]
  have HO := Lib.hid hown0
  have HS := Lib.hid hs
  obtain ⟨a, cap, rfl, hnil, hcells⟩ := hs
  have HC := Lib.hid hcells
  have HLN : Hid (xs.length = (xs.map (Value.int .i64)).length) := by show _ = _; simp
  clear hown0 hcells
  rw [← HLN.out]
  go_enter Try.func32, Try.ntmps32
  go_upto_region 1 with (fail)
  go_cut [6] from 10 to 12 (fun v6 wc => DoAt w #[.int .u8 0, .int .i64 F, .int .i64 I, .int .i64 E, .int .i64 V] xs v6 wc)
  case first =>
    cases a with
    | none =>
      have hc0 := hnil rfl
      subst hc0
      have hx0 : xs = [] := by
        cases xs with
        | nil => rfl
        | cons x r => obtain ⟨g, o, h, _⟩ := HC.out 0 _ rfl; cases h
      subst hx0
      go_wp2_with (at_builtin; refine wpList_append_own_none rfl (.tmp 10) (.tmp 11) 32 rfl w.heap.size 2 i2 1 Try.underlying32 HI.out.1 _ 0 [] rfl HO.out rfl ?_)
      go_meet
      case rel => exact do_at0 w _
    | some ad =>
      go_wp2_with (at_builtin; refine wpList_append_own _ rfl (.tmp 10) (.tmp 11) 32 rfl w.heap.size 2 i2 (.int .i64 0) 1 8 Try.underlying32 HI.out.1 HI.out.2.1 HI.out.2.2.1 HI.out.2.2.2 rfl (by decide) _ _ _ rfl HO.out ad xs.length cap (xs.map (Value.int .i64)) rfl (by simp) (do_news HS.out HLN.out) (ints_one xs) (by unfold maxLen; omega) (by omega) (by simp; omega) ?_)
      intro v1 w1 hown1 hgrow1 hnil1
      have HW1 := Lib.hid (do_at1 hown1 hgrow1 hnil1)
      clear hown1 hgrow1 hnil1
      go_wp2_with fail
      go_meet
      case rel => exact HW1.out
  case rest =>
    obtain ⟨g, gc, rfl, ho, hb, hbs, hgb⟩ := hcut
    have HOW := Lib.hid ho
    have HB := Lib.hid hb
    have HBS := Lib.hid hbs
    have hs0 := cell_at (j := 0) hbs rfl
    have hs2 := cell_at (j := 2) hbs rfl
    have hs3 := cell_at (j := 3) hbs rfl
    have hs4 := cell_at (j := 4) hbs rfl
    clear ho hb hbs hnil HO HC
    go_wp2_with (at_builtin; refine wpList_append_own _ rfl (.tmp 17) (.tmp 20) 32 rfl w.heap.size 2 i2 (.int .i64 0) 1 8 Try.underlying32 HI.out.1 HI.out.2.1 HI.out.2.2.1 HI.out.2.2.2 rfl (by decide) _ _ _ rfl (HOW.out.alloc _) ⟨wc.heap.size, 0, none⟩ 1 1 [.int .i64 V] rfl rfl (new_cell _ _ _) (one_oneCell rfl) (by unfold maxLen; omega) (by omega) (by have := HB.out.size; simp; omega) ?_)
    intro v2 w2 hown2 hgrow2 hnil2
    have HW2 := Lib.hid (do_end (k := 0) (I := I) (E := E) (V := V) (ys := xs ++ [V]) (HB.out.alloc HB.out.size _) hgrow2 (HOW.out.lt g rfl).1 hown2 hnil2 (by simp) rfl)
    clear hown2 hgrow2 hnil2
    go_wp2_with fail
    refine bodyPost_ret (results_tmp2 rfl _ _ _) rfl ?_
    exact HW2.out

set_option maxRecDepth 100000 in
set_option maxHeartbeats 1600000 in
theorem do_w1 (u : Value) (xs : List Int) (F I E V : Int) (w : World) (hs : SlN w u (xs.map (Value.int .i64))) (hl : xs.length ≤ 2147483647) :
    Calls Try.prog 32 #[u, .agg #[.int .u8 1, .int .i64 F, .int .i64 I, .int .i64 E, .int .i64 V]] w (DoPost w xs 1 I E V) := by
  obtain ⟨i2, hi, hz0, hz1, hz2⟩ := info_parts info2
  have HI := Lib.hid (And.intro hi (And.intro hz0 (And.intro hz1 hz2)))
  clear hi hz0 hz1 hz2
  have hown0 := made0 w #[.int .u8 1, .int .i64 F, .int .i64 I, .int .i64 E, .int .i64 V]
  have HO := Lib.hid hown0
  have HS := Lib.hid hs
  obtain ⟨a, cap, rfl, hnil, hcells⟩ := hs
  have HC := Lib.hid hcells
  have HLN : Hid (xs.length = (xs.map (Value.int .i64)).length) := by show _ = _; simp
  clear hown0 hcells
  rw [← HLN.out]
  go_enter Try.func32, Try.ntmps32
  go_upto_region 1 with (fail)
  go_cut [6] from 10 to 12 (fun v6 wc => DoAt w #[.int .u8 1, .int .i64 F, .int .i64 I, .int .i64 E, .int .i64 V] xs v6 wc)
  case first =>
    cases a with
    | none =>
      have hc0 := hnil rfl
      subst hc0
      have hx0 : xs = [] := by
        cases xs with
        | nil => rfl
        | cons x r => obtain ⟨g, o, h, _⟩ := HC.out 0 _ rfl; cases h
      subst hx0
      go_wp2_with (at_builtin; refine wpList_append_own_none rfl (.tmp 10) (.tmp 11) 32 rfl w.heap.size 2 i2 1 Try.underlying32 HI.out.1 _ 0 [] rfl HO.out rfl ?_)
      go_meet
      case rel => exact do_at0 w _
    | some ad =>
      go_wp2_with (at_builtin; refine wpList_append_own _ rfl (.tmp 10) (.tmp 11) 32 rfl w.heap.size 2 i2 (.int .i64 0) 1 8 Try.underlying32 HI.out.1 HI.out.2.1 HI.out.2.2.1 HI.out.2.2.2 rfl (by decide) _ _ _ rfl HO.out ad xs.length cap (xs.map (Value.int .i64)) rfl (by simp) (do_news HS.out HLN.out) (ints_one xs) (by unfold maxLen; omega) (by omega) (by simp; omega) ?_)
      intro v1 w1 hown1 hgrow1 hnil1
      have HW1 := Lib.hid (do_at1 hown1 hgrow1 hnil1)
      clear hown1 hgrow1 hnil1
      go_wp2_with fail
      go_meet
      case rel => exact HW1.out
  case rest =>
    obtain ⟨g, gc, rfl, ho, hb, hbs, hgb⟩ := hcut
    have HOW := Lib.hid ho
    have HB := Lib.hid hb
    have HBS := Lib.hid hbs
    have hs0 := cell_at (j := 0) hbs rfl
    have hs2 := cell_at (j := 2) hbs rfl
    have hs3 := cell_at (j := 3) hbs rfl
    have hs4 := cell_at (j := 4) hbs rfl
    clear ho hb hbs hnil HO HC
    go_wp2_with (at_builtin; refine wpList_append_own _ rfl (.tmp 26) (.tmp 27) 32 rfl w.heap.size 2 i2 (.int .i64 0) 1 8 Try.underlying32 HI.out.1 HI.out.2.1 HI.out.2.2.1 HI.out.2.2.2 rfl (by decide) _ _ _ rfl (built1 wc _ HB.out.size) ⟨g, 0, none⟩ xs.length gc (xs.map (Value.int .i64)) rfl (by simp) (own_news HOW.out _) (ints_one xs) (by unfold maxLen; omega) (by omega) (by have := HB.out.size; simp; omega) ?_)
    intro v2 w2 hown2 hgrow2 hnil2
    have HW2 := Lib.hid (do_end (xs := xs) (k := 1) (I := I) (E := E) (V := V) (ys := V :: xs) (HB.out.alloc HB.out.size _) hgrow2 HB.out.size hown2 hnil2 (by simp) rfl)
    clear hown2 hgrow2 hnil2
    go_wp2_with fail
    refine bodyPost_ret (results_tmp2 rfl _ _ _) rfl ?_
    exact HW2.out

set_option maxRecDepth 100000 in
set_option maxHeartbeats 1600000 in
theorem do_w2 (u : Value) (xs : List Int) (F I E V : Int) (w : World) (hs : SlN w u (xs.map (Value.int .i64))) (hl : xs.length ≤ 2147483647) :
    Calls Try.prog 32 #[u, .agg #[.int .u8 2, .int .i64 F, .int .i64 I, .int .i64 E, .int .i64 V]] w (DoPost w xs 2 I E V) := by
  obtain ⟨i2, hi, hz0, hz1, hz2⟩ := info_parts info2
  have HI := Lib.hid (And.intro hi (And.intro hz0 (And.intro hz1 hz2)))
  clear hi hz0 hz1 hz2
  have hown0 := made0 w #[.int .u8 2, .int .i64 F, .int .i64 I, .int .i64 E, .int .i64 V]
  have HO := Lib.hid hown0
  have HS := Lib.hid hs
  obtain ⟨a, cap, rfl, hnil, hcells⟩ := hs
  have HC := Lib.hid hcells
  have HLN : Hid (xs.length = (xs.map (Value.int .i64)).length) := by show _ = _; simp
  clear hown0 hcells
  rw [← HLN.out]
  go_enter Try.func32, Try.ntmps32
  go_upto_region 1 with (fail)
  go_cut [6] from 10 to 12 (fun v6 wc => DoAt w #[.int .u8 2, .int .i64 F, .int .i64 I, .int .i64 E, .int .i64 V] xs v6 wc)
  case first =>
    cases a with
    | none =>
      have hc0 := hnil rfl
      subst hc0
      have hx0 : xs = [] := by
        cases xs with
        | nil => rfl
        | cons x r => obtain ⟨g, o, h, _⟩ := HC.out 0 _ rfl; cases h
      subst hx0
      go_wp2_with (at_builtin; refine wpList_append_own_none rfl (.tmp 10) (.tmp 11) 32 rfl w.heap.size 2 i2 1 Try.underlying32 HI.out.1 _ 0 [] rfl HO.out rfl ?_)
      go_meet
      case rel => exact do_at0 w _
    | some ad =>
      go_wp2_with (at_builtin; refine wpList_append_own _ rfl (.tmp 10) (.tmp 11) 32 rfl w.heap.size 2 i2 (.int .i64 0) 1 8 Try.underlying32 HI.out.1 HI.out.2.1 HI.out.2.2.1 HI.out.2.2.2 rfl (by decide) _ _ _ rfl HO.out ad xs.length cap (xs.map (Value.int .i64)) rfl (by simp) (do_news HS.out HLN.out) (ints_one xs) (by unfold maxLen; omega) (by omega) (by simp; omega) ?_)
      intro v1 w1 hown1 hgrow1 hnil1
      have HW1 := Lib.hid (do_at1 hown1 hgrow1 hnil1)
      clear hown1 hgrow1 hnil1
      go_wp2_with fail
      go_meet
      case rel => exact HW1.out
  case rest =>
    obtain ⟨g, gc, rfl, ho, hb, hbs, hgb⟩ := hcut
    have HOW := Lib.hid ho
    have HB := Lib.hid hb
    have HBS := Lib.hid hbs
    have hs0 := cell_at (j := 0) hbs rfl
    have hs2 := cell_at (j := 2) hbs rfl
    have hs3 := cell_at (j := 3) hbs rfl
    have hs4 := cell_at (j := 4) hbs rfl
    clear ho hb hbs hnil HO HC
    by_cases c1 : I < 0
    · have d1 : decide (I < 0) = true := by simp [c1]
      have HE := Lib.hid (do_same (k := 2) (I := I) (E := E) (V := V) HB.out HOW.out (by unfold stepOf; rw [if_neg (by decide), if_neg (by decide), if_pos rfl, if_neg (by omega)]))
      go_wp2_with fail
      refine bodyPost_ret (results_tmp2 rfl _ _ _) rfl ?_
      exact HE.out
    · have d1 : decide (I < 0) = false := by simp; omega
      by_cases c2 : (xs.length : Int) ≤ I
      · have d2 : decide ((xs.length : Int) ≤ I) = true := by simp; omega
        have HE := Lib.hid (do_same (k := 2) (I := I) (E := E) (V := V) HB.out HOW.out (by unfold stepOf; rw [if_neg (by decide), if_neg (by decide), if_pos rfl, if_neg (by omega)]))
        go_wp2_with fail
        refine bodyPost_ret (results_tmp2 rfl _ _ _) rfl ?_
        exact HE.out
      · have d2 : decide ((xs.length : Int) ≤ I) = false := by simp; omega
        obtain ⟨i, rfl⟩ : ∃ i : Nat, I = i := ⟨I.toNat, by omega⟩
        have hi : i < xs.length := by omega
        obtain ⟨x, hx⟩ : ∃ x, xs[i]? = some x := ⟨xs[i], List.getElem?_eq_getElem hi⟩
        have hcx := own_cell HOW.out (u := .int .i64 x) (by rw [List.getElem?_map, hx]; rfl)
        have hfx := own_free HOW.out hi
        have HE := Lib.hid (do_set (E := E) (V := V) HB.out HOW.out hi)
        clear hx
        go_wp2_with fail
        refine bodyPost_ret (results_tmp2 rfl _ _ _) rfl ?_
        exact HE.out

set_option maxRecDepth 100000 in
set_option maxHeartbeats 1600000 in
theorem do_w3 (u : Value) (xs : List Int) (F I E V : Int) (w : World) (hs : SlN w u (xs.map (Value.int .i64))) (hl : xs.length ≤ 2147483647) :
    Calls Try.prog 32 #[u, .agg #[.int .u8 3, .int .i64 F, .int .i64 I, .int .i64 E, .int .i64 V]] w (DoPost w xs 3 I E V) := by
  obtain ⟨i2, hi, hz0, hz1, hz2⟩ := info_parts info2
  have HI := Lib.hid (And.intro hi (And.intro hz0 (And.intro hz1 hz2)))
  clear hi hz0 hz1 hz2
  have hown0 := made0 w #[.int .u8 3, .int .i64 F, .int .i64 I, .int .i64 E, .int .i64 V]
  have HO := Lib.hid hown0
  have HS := Lib.hid hs
  obtain ⟨a, cap, rfl, hnil, hcells⟩ := hs
  have HC := Lib.hid hcells
  have HLN : Hid (xs.length = (xs.map (Value.int .i64)).length) := by show _ = _; simp
  clear hown0 hcells
  rw [← HLN.out]
  go_enter Try.func32, Try.ntmps32
  go_upto_region 1 with (fail)
  go_cut [6] from 10 to 12 (fun v6 wc => DoAt w #[.int .u8 3, .int .i64 F, .int .i64 I, .int .i64 E, .int .i64 V] xs v6 wc)
  case first =>
    cases a with
    | none =>
      have hc0 := hnil rfl
      subst hc0
      have hx0 : xs = [] := by
        cases xs with
        | nil => rfl
        | cons x r => obtain ⟨g, o, h, _⟩ := HC.out 0 _ rfl; cases h
      subst hx0
      go_wp2_with (at_builtin; refine wpList_append_own_none rfl (.tmp 10) (.tmp 11) 32 rfl w.heap.size 2 i2 1 Try.underlying32 HI.out.1 _ 0 [] rfl HO.out rfl ?_)
      go_meet
      case rel => exact do_at0 w _
    | some ad =>
      go_wp2_with (at_builtin; refine wpList_append_own _ rfl (.tmp 10) (.tmp 11) 32 rfl w.heap.size 2 i2 (.int .i64 0) 1 8 Try.underlying32 HI.out.1 HI.out.2.1 HI.out.2.2.1 HI.out.2.2.2 rfl (by decide) _ _ _ rfl HO.out ad xs.length cap (xs.map (Value.int .i64)) rfl (by simp) (do_news HS.out HLN.out) (ints_one xs) (by unfold maxLen; omega) (by omega) (by simp; omega) ?_)
      intro v1 w1 hown1 hgrow1 hnil1
      have HW1 := Lib.hid (do_at1 hown1 hgrow1 hnil1)
      clear hown1 hgrow1 hnil1
      go_wp2_with fail
      go_meet
      case rel => exact HW1.out
  case rest =>
    obtain ⟨g, gc, rfl, ho, hb, hbs, hgb⟩ := hcut
    have HOW := Lib.hid ho
    have HB := Lib.hid hb
    have HBS := Lib.hid hbs
    have hs0 := cell_at (j := 0) hbs rfl
    have hs2 := cell_at (j := 2) hbs rfl
    have hs3 := cell_at (j := 3) hbs rfl
    have hs4 := cell_at (j := 4) hbs rfl
    clear ho hb hbs hnil HO HC
    by_cases c1 : I < 0
    · have d1 : decide (I < 0) = true := by simp [c1]
      have HE := Lib.hid (do_same (k := 3) (I := I) (E := E) (V := V) HB.out HOW.out (by unfold stepOf; rw [if_neg (by decide), if_neg (by decide), if_neg (by decide), if_pos rfl, if_neg (by omega)]))
      go_wp2_with fail
      refine bodyPost_ret (results_tmp2 rfl _ _ _) rfl ?_
      exact HE.out
    · have d1 : decide (I < 0) = false := by simp; omega
      by_cases c2 : E < I
      · have d2 : decide (E < I) = true := by simp [c2]
        have HE := Lib.hid (do_same (k := 3) (I := I) (E := E) (V := V) HB.out HOW.out (by unfold stepOf; rw [if_neg (by decide), if_neg (by decide), if_neg (by decide), if_pos rfl, if_neg (by omega)]))
        go_wp2_with fail
        refine bodyPost_ret (results_tmp2 rfl _ _ _) rfl ?_
        exact HE.out
      · have d2 : decide (E < I) = false := by simp; omega
        by_cases c3 : (xs.length : Int) < E
        · have d3 : decide ((xs.length : Int) < E) = true := by simp [c3]
          have HE := Lib.hid (do_same (k := 3) (I := I) (E := E) (V := V) HB.out HOW.out (by unfold stepOf; rw [if_neg (by decide), if_neg (by decide), if_neg (by decide), if_pos rfl, if_neg (by omega)]))
          go_wp2_with fail
          refine bodyPost_ret (results_tmp2 rfl _ _ _) rfl ?_
          exact HE.out
        · have d3 : decide ((xs.length : Int) < E) = false := by simp; omega
          obtain ⟨a', n', c', hrun, hE⟩ := do_cut' (V := V) HB.out HOW.out (I := I) (E := E) (by omega) (by omega) (by omega)
          have HE := Lib.hid hE
          clear hE c1 c2 c3
          go_wp2_with fail
          refine bodyPost_ret (results_tmp2 rfl _ _ _) rfl ?_
          exact HE.out

end Go.Proofs.Ytnahipfdnadccaa

namespace Go.Proofs.Ytnahipfdnadccaa
open Go.RowKit

set_option maxRecDepth 100000 in
set_option maxHeartbeats 1600000 in
theorem do_w4 (u : Value) (xs : List Int) (F I E V : Int) (w : World) (hs : SlN w u (xs.map (Value.int .i64))) (hl : xs.length ≤ 2147483647) (hI : 0 ≤ I ∧ I ≤ 100000) :
    Calls Try.prog 32 #[u, .agg #[.int .u8 4, .int .i64 F, .int .i64 I, .int .i64 E, .int .i64 V]] w (DoPost w xs 4 I E V) := by
  obtain ⟨i2, hi, hz0, hz1, hz2⟩ := info_parts info2
  have HI := Lib.hid (And.intro hi (And.intro hz0 (And.intro hz1 hz2)))
  clear hi hz0 hz1 hz2
  have hown0 := made0 w #[.int .u8 4, .int .i64 F, .int .i64 I, .int .i64 E, .int .i64 V]
  have HO := Lib.hid hown0
  have HS := Lib.hid hs
  obtain ⟨a, cap, rfl, hnil, hcells⟩ := hs
  have HC := Lib.hid hcells
  have HLN : Hid (xs.length = (xs.map (Value.int .i64)).length) := by show _ = _; simp
  clear hown0 hcells
  rw [← HLN.out]
  go_enter Try.func32, Try.ntmps32
  go_upto_region 1 with (fail)
  go_cut [6] from 10 to 12 (fun v6 wc => DoAt w #[.int .u8 4, .int .i64 F, .int .i64 I, .int .i64 E, .int .i64 V] xs v6 wc)
  case first =>
    cases a with
    | none =>
      have hc0 := hnil rfl
      subst hc0
      have hx0 : xs = [] := by
        cases xs with
        | nil => rfl
        | cons x r => obtain ⟨g, o, h, _⟩ := HC.out 0 _ rfl; cases h
      subst hx0
      go_wp2_with (at_builtin; refine wpList_append_own_none rfl (.tmp 10) (.tmp 11) 32 rfl w.heap.size 2 i2 1 Try.underlying32 HI.out.1 _ 0 [] rfl HO.out rfl ?_)
      go_meet
      case rel => exact do_at0 w _
    | some ad =>
      go_wp2_with (at_builtin; refine wpList_append_own _ rfl (.tmp 10) (.tmp 11) 32 rfl w.heap.size 2 i2 (.int .i64 0) 1 8 Try.underlying32 HI.out.1 HI.out.2.1 HI.out.2.2.1 HI.out.2.2.2 rfl (by decide) _ _ _ rfl HO.out ad xs.length cap (xs.map (Value.int .i64)) rfl (by simp) (do_news HS.out HLN.out) (ints_one xs) (by unfold maxLen; omega) (by omega) (by simp; omega) ?_)
      intro v1 w1 hown1 hgrow1 hnil1
      have HW1 := Lib.hid (do_at1 hown1 hgrow1 hnil1)
      clear hown1 hgrow1 hnil1
      go_wp2_with fail
      go_meet
      case rel => exact HW1.out
  case rest =>
    obtain ⟨g, gc, rfl, ho, hb, hbs, hgb⟩ := hcut
    have HOW := Lib.hid ho
    have HB := Lib.hid hb
    have HBS := Lib.hid hbs
    have hs0 := cell_at (j := 0) hbs rfl
    have hs2 := cell_at (j := 2) hbs rfl
    have hs3 := cell_at (j := 3) hbs rfl
    have hs4 := cell_at (j := 4) hbs rfl
    clear ho hb hbs hnil HO HC
    obtain ⟨N, rfl⟩ : ∃ N : Nat, I = N := ⟨I.toNat, by omega⟩
    have hN : N ≤ 100000 := by omega
    have HGB := Lib.hid hgb
    have HN := Lib.hid hN
    have HL := Lib.hid hl
    clear hI hgb hN hl HS HLN
    go_wp2_with fail
    go_loopg [6, 7, 78] N (fun k v6 v7 v78 wr => ∃ j : Nat, j + k = N ∧ v78 = .int .i64 (j : Int) ∧ DoAt w #[.int .u8 4, .int .i64 F, .int .i64 (N : Int), .int .i64 E, .int .i64 V] (xs ++ up j V) v6 wr)
    case atStart => exact ⟨0, by omega, rfl, by rw [up_zero, List.append_nil]; exact ⟨g, gc, rfl, HOW.out, HB.out, HBS.out, HGB.out⟩⟩
    case round =>
      clear HOW HB HBS HGB hs0 hs2 hs3 hs4
      obtain ⟨j, hjk, rfl, gr, gcr, rfl, ho, hb, hbs, hgb⟩ := hrel
      have HD : Hid (DoAt w #[.int .u8 4, .int .i64 F, .int .i64 (N : Int), .int .i64 E, .int .i64 V] (xs ++ up j V) (.slice (some ⟨gr, 0, none⟩) (xs ++ up j V).length gcr) wr) := ⟨gr, gcr, rfl, ho, hb, hbs, hgb⟩
      have HOW := Lib.hid ho
      have HB := Lib.hid hb
      have HBS := Lib.hid hbs
      have HGB := Lib.hid hgb
      have hs4 := cell_at (j := 4) hbs rfl
      have HLY : Hid ((xs ++ up j V).length = xs.length + j) := by show _ = _; simp [up]
      clear ho hb hbs hgb
      generalize hys : xs ++ up j V = ys at HD HOW HLY ⊢
      have HYS := Lib.hid hys
      clear hys
      by_cases hlt : j < N
      · have h1 : decide ((j : Int) < (N : Int)) = true := by simp; omega
        have hw1 : IntKind.i64.wrap ((j : Int) + 1) = (j : Int) + 1 := by have := HN.out; rw [IntKind.wrap_i64]; omega
        go_wp2_with (at_builtin; refine wpList_append_own _ rfl (.tmp 81) (.tmp 86) 32 rfl w.heap.size 2 i2 (.int .i64 0) 1 8 Try.underlying32 HI.out.1 HI.out.2.1 HI.out.2.2.1 HI.out.2.2.2 rfl (by decide) _ _ _ rfl (HOW.out.alloc _) ⟨wr.heap.size, 0, none⟩ 1 1 [.int .i64 (wrap64 (V + j))] rfl rfl (new_cell _ _ _) (one_oneCell rfl) (by have := HLY.out; have := HN.out; have := HL.out; unfold maxLen; omega) (by have := HLY.out; have := HN.out; have := HL.out; omega) (by have := HB.out.size; simp; omega) ?_)
        intro v2 w2 hown2 hgrow2 hnil2
        have HW2 := Lib.hid (do_push HB.out HBS.out HGB.out HOW.out hgrow2 hown2 (by simp) hnil2)
        clear hown2 hgrow2 hnil2
        go_wp2_with fail
        go_roundg (gk - 1)
        case measure => omega
        case rel =>
          refine ⟨j + 1, by omega, rfl, ?_⟩
          rw [up_succ, ← List.append_assoc, HYS.out]
          exact HW2.out
      · have h1 : decide ((j : Int) < (N : Int)) = false := by simp; omega
        have hj : j = N := by omega
        have HE := Lib.hid (do_done (k := 4) (xs := xs) (I := N) (E := E) (V := V) HD.out (by rw [← HYS.out, hj]; unfold stepOf; rw [if_neg (by decide), if_neg (by decide), if_neg (by decide), if_neg (by decide), if_pos rfl, Int.toNat_natCast]))
        clear HD hj
        go_wp2_with fail
        refine bodyPost_ret (results_tmp2 rfl _ _ _) rfl ?_
        exact HE.out

set_option maxRecDepth 100000 in
set_option maxHeartbeats 1600000 in
theorem do_w5 (u : Value) (xs : List Int) (F I E V : Int) (w : World) (hs : SlN w u (xs.map (Value.int .i64))) (hl : xs.length ≤ 2147483647) (hI : 0 ≤ I ∧ I ≤ 100000) :
    Calls Try.prog 32 #[u, .agg #[.int .u8 5, .int .i64 F, .int .i64 I, .int .i64 E, .int .i64 V]] w (DoPost w xs 5 I E V) := by
  obtain ⟨i2, hi, hz0, hz1, hz2⟩ := info_parts info2
  have HI := Lib.hid (And.intro hi (And.intro hz0 (And.intro hz1 hz2)))
  clear hi hz0 hz1 hz2
  have hown0 := made0 w #[.int .u8 5, .int .i64 F, .int .i64 I, .int .i64 E, .int .i64 V]
  have HO := Lib.hid hown0
  have HS := Lib.hid hs
  obtain ⟨a, cap, rfl, hnil, hcells⟩ := hs
  have HC := Lib.hid hcells
  have HLN : Hid (xs.length = (xs.map (Value.int .i64)).length) := by show _ = _; simp
  clear hown0 hcells
  rw [← HLN.out]
  go_enter Try.func32, Try.ntmps32
  go_upto_region 1 with (fail)
  go_cut [6] from 10 to 12 (fun v6 wc => DoAt w #[.int .u8 5, .int .i64 F, .int .i64 I, .int .i64 E, .int .i64 V] xs v6 wc)
  case first =>
    cases a with
    | none =>
      have hc0 := hnil rfl
      subst hc0
      have hx0 : xs = [] := by
        cases xs with
        | nil => rfl
        | cons x r => obtain ⟨g, o, h, _⟩ := HC.out 0 _ rfl; cases h
      subst hx0
      go_wp2_with (at_builtin; refine wpList_append_own_none rfl (.tmp 10) (.tmp 11) 32 rfl w.heap.size 2 i2 1 Try.underlying32 HI.out.1 _ 0 [] rfl HO.out rfl ?_)
      go_meet
      case rel => exact do_at0 w _
    | some ad =>
      go_wp2_with (at_builtin; refine wpList_append_own _ rfl (.tmp 10) (.tmp 11) 32 rfl w.heap.size 2 i2 (.int .i64 0) 1 8 Try.underlying32 HI.out.1 HI.out.2.1 HI.out.2.2.1 HI.out.2.2.2 rfl (by decide) _ _ _ rfl HO.out ad xs.length cap (xs.map (Value.int .i64)) rfl (by simp) (do_news HS.out HLN.out) (ints_one xs) (by unfold maxLen; omega) (by omega) (by simp; omega) ?_)
      intro v1 w1 hown1 hgrow1 hnil1
      have HW1 := Lib.hid (do_at1 hown1 hgrow1 hnil1)
      clear hown1 hgrow1 hnil1
      go_wp2_with fail
      go_meet
      case rel => exact HW1.out
  case rest =>
    obtain ⟨g, gc, rfl, ho, hb, hbs, hgb⟩ := hcut
    have HOW := Lib.hid ho
    have HB := Lib.hid hb
    have HBS := Lib.hid hbs
    have hs0 := cell_at (j := 0) hbs rfl
    have hs2 := cell_at (j := 2) hbs rfl
    have hs3 := cell_at (j := 3) hbs rfl
    have hs4 := cell_at (j := 4) hbs rfl
    clear ho hb hbs hnil HO HC
    obtain ⟨N, rfl⟩ : ∃ N : Nat, I = N := ⟨I.toNat, by omega⟩
    have hN : N ≤ 100000 := by omega
    have HN := Lib.hid hN
    have HL := Lib.hid hl
    have hw5 : IntKind.i64.wrap ((N : Int) + xs.length) = (N : Int) + xs.length := by rw [IntKind.wrap_i64]; omega
    have hw6 : IntKind.i64.wrap ((N : Int) - 1) = (N : Int) - 1 := by rw [IntKind.wrap_i64]; omega
    clear hI hN hl HS HLN hgb
    go_wp2_with (at_make; refine wpList_make_own _ rfl _ _ 32 rfl wc.heap.size 2 i2 (.int .i64 0) 1 Try.underlying32 HI.out.1 HI.out.2.1 HI.out.2.2.1 .i64 .i64 _ (N + xs.length) rfl rfl (by omega) (by rw [HI.out.2.2.2]; have := HL.out; have := HN.out; omega) (by have := HL.out; have := HN.out; unfold maxLen; omega) (Nat.le_refl _) ?_)
    intro w0 hown0 hgrow0
    have HF0 : Hid (FrL wc [] (.slice (some ⟨wc.heap.size, 0, none⟩) 0 (N + xs.length)) w0) := ⟨wc.heap.size, _, rfl, hown0, Below.grown (Below.refl _ wc) hgrow0 (Nat.le_refl _) (fun k hk => by cases hk)⟩
    have hs2' := (HF0.out.choose_spec.choose_spec.2.2.cell (p := ⟨w.heap.size, 2, none⟩) (lt_of_block HBS.out)).trans hs2
    clear hown0 hgrow0
    go_wp2_with fail
    go_loopg [8, 9] N (fun k v8 v9 wr => ∃ m : Nat, m + k = N ∧ v9 = .int .i64 ((N : Int) - 1 - m) ∧ FrL wc ((up N V).reverse.take m) v8 wr)
    case atStart => exact ⟨0, by omega, by simp, HF0.out⟩
    case round =>
      clear HF0 hs0 hs2 hs3 hs2' hw5 hw6
      obtain ⟨m, hmk, rfl, gr, gcr, rfl, ho, hb⟩ := hrel
      have HOR := Lib.hid ho
      have HBR := Lib.hid hb
      have hs4r := (hb.cell (p := ⟨w.heap.size, 4, none⟩) (lt_of_block HBS.out)).trans hs4
      have HLY : Hid (((up N V).reverse.take m).length = m) := by show _ = _; simp [up]; omega
      have HS4 := Lib.hid hs4
      clear ho hb hs4
      generalize hys : (up N V).reverse.take m = ys at HOR HLY ⊢
      have HYS := Lib.hid hys
      clear hys
      by_cases hlt : m < N
      · have h1 : decide (0 ≤ (N : Int) - 1 - m) = true := by simp; omega
        have hw1 : IntKind.i64.wrap ((N : Int) - 1 - m - 1) = (N : Int) - 1 - m - 1 := by have := HN.out; rw [IntKind.wrap_i64]; omega
        go_wp2_with (at_builtin; refine wpList_append_own _ rfl (.tmp 104) (.tmp 109) 32 rfl wc.heap.size 2 i2 (.int .i64 0) 1 8 Try.underlying32 HI.out.1 HI.out.2.1 HI.out.2.2.1 HI.out.2.2.2 rfl (by decide) _ _ _ rfl (HOR.out.alloc _) ⟨wr.heap.size, 0, none⟩ 1 1 [.int .i64 (wrap64 (V + ((N : Int) - 1 - m)))] rfl rfl (new_cell _ _ _) (one_oneCell rfl) (by have := HLY.out; have := HN.out; have := HL.out; unfold maxLen; omega) (by have := HLY.out; have := HN.out; have := HL.out; omega) (by have := HBR.out.size; simp; omega) ?_)
        intro v2 w2 hown2 hgrow2 hnil2
        have HW2 := Lib.hid (fr_push HBR.out HOR.out hgrow2 hown2 (by simp) hnil2)
        clear hown2 hgrow2 hnil2
        go_wp2_with fail
        go_roundg (gk - 1)
        case measure => omega
        case rel =>
          refine ⟨m + 1, by omega, ?_, ?_⟩
          · congr 1; omega
          · rw [up_rev V hlt, HYS.out]
            exact HW2.out
      · have h1 : decide (0 ≤ (N : Int) - 1 - m) = false := by simp; omega
        have hm : m = N := by omega
        have HSt : Hid (stepOf xs 5 N E V = some (ys ++ xs)) := by
          have : (up N V).reverse.take m = (up N V).reverse := List.take_of_length_le (by simp [up]; omega)
          show _ = _
          rw [← HYS.out, this]
          unfold stepOf
          rw [if_neg (by decide), if_neg (by decide), if_neg (by decide), if_neg (by decide), if_neg (by decide), Int.toNat_natCast]
        clear hm
        go_wp2_with (at_builtin; refine wpList_append_own _ rfl (.tmp 111) (.tmp 112) 32 rfl wc.heap.size 2 i2 (.int .i64 0) 1 8 Try.underlying32 HI.out.1 HI.out.2.1 HI.out.2.2.1 HI.out.2.2.2 rfl (by decide) _ _ _ rfl HOR.out ⟨g, 0, none⟩ xs.length gc (xs.map (Value.int .i64)) rfl (by simp) (own_newsB HOW.out HBR.out) (ints_one xs) (by have := HLY.out; have := HN.out; have := HL.out; unfold maxLen; omega) (by have := HLY.out; have := HN.out; have := HL.out; omega) (by have := HBR.out.size; omega) ?_)
        intro v2 w2 hown2 hgrow2 hnil2
        have HW2 := Lib.hid (fr_done (E := E) HB.out HBR.out HOR.out hgrow2 hown2 (by simp) hnil2 HSt.out)
        clear hown2 hgrow2 hnil2
        go_wp2_with fail
        refine bodyPost_ret (results_tmp2 rfl _ _ _) rfl ?_
        exact HW2.out

end Go.Proofs.Ytnahipfdnadccaa
