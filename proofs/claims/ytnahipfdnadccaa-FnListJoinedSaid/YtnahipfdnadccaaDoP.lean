/- spec.ListDo: the words of its walks. Conditions of this file: none. -/
import Derived.Test.YtnahipfdnadccaaCap
namespace Go.Proofs.Ytnahipfdnadccaa
open Go.RowKit

/-- u is a slice that reads cs; nil, if it lies nowhere -/
def SlN (w : World) (u : Value) (cs : List Value) : Prop :=
  ∃ (a : Option Addr) (cap : Nat), u = .slice a cs.length cap ∧ (a = none → cap = 0) ∧ ∀ (i : Nat) (c : Value), cs[i]? = some c → ∃ g o, a = some ⟨g, o, none⟩ ∧ w.cell? ⟨g, o + i, none⟩ = some c
/-- u is a slice that lies in a row of whole numbers, and reads cs -/
def SlS (w : World) (u : Value) (cs : List Value) : Prop :=
  ∃ (g o cap : Nat) (cur : Array Value), u = .slice (some ⟨g, o, none⟩) cs.length cap ∧ w.heap[g]? = some (.cells cur 2 (0, 0)) ∧ ∀ (i : Nat) (c : Value), cs[i]? = some c → w.cell? ⟨g, o + i, none⟩ = some c
/-- it stays where rows of whole numbers stay -/
theorem SlS.keep {w w' : World} {u : Value} {cs : List Value} (h : SlS w u cs) (s : ∀ (g : Nat) (cur : Array Value), w.heap[g]? = some (Obj.cells cur 2 (0, 0)) → w'.heap[g]? = w.heap[g]?) : SlS w' u cs := by
  obtain ⟨g, o, cap, cur, h1, h2, h3⟩ := h
  exact ⟨g, o, cap, cur, h1, (s g cur h2).trans h2, fun i c hc => (World.cell?_of_block (s g cur h2)).trans (h3 i c hc)⟩
theorem SlS.below {w w' : World} {u : Value} {cs : List Value} (h : SlS w u cs) (s : Below w.heap.size w w') : SlS w' u cs := h.keep fun g _ hg => s.block g (lt_of_block hg)
theorem SlS.slv {w : World} {u : Value} {cs : List Value} (h : SlS w u cs) : SlV w u cs := by
  obtain ⟨g, o, cap, cur, h1, h2, h3⟩ := h
  exact ⟨_, cap, h1, fun i c hc => ⟨g, o, rfl, h3 i c hc⟩⟩
theorem SlS.sln {w : World} {u : Value} {cs : List Value} (h : SlS w u cs) : SlN w u cs := by
  obtain ⟨g, o, cap, cur, h1, h2, h3⟩ := h
  exact ⟨_, cap, h1, nofun, fun i c hc => ⟨g, o, rfl, h3 i c hc⟩⟩
theorem SlN.slv {w : World} {u : Value} {cs : List Value} (h : SlN w u cs) : SlV w u cs := by
  obtain ⟨a, cap, h1, h2, h3⟩ := h
  exact ⟨a, cap, h1, h3⟩
theorem SlN.below {w w' : World} {u : Value} {cs : List Value} (h : SlN w u cs) (s : Below w.heap.size w w') : SlN w' u cs := by
  obtain ⟨a, cap, h1, h0, h2⟩ := h
  exact ⟨a, cap, h1, h0, fun i c hc => by obtain ⟨g, o, h3, h4⟩ := h2 i c hc; exact ⟨g, o, h3, (s.cell (World.block_lt_of_cell? w _ h4)).trans h4⟩⟩

theorem SlS.of_own {w : World} {B n g cap : Nat} {cs : List Value} (h : w.ownsRow B 2 1 (.slice (some ⟨g, 0, none⟩) n cap) n cs) : SlS w (.slice (some ⟨g, 0, none⟩) n cap) cs := by
  have hn : cs.length = n := by simpa using h.1
  obtain ⟨cur, hcur⟩ : ∃ cur, w.heap[g]? = some (.cells cur 2 (0, 0)) := by
    rcases h.2 with ⟨h1, _⟩ | ⟨g', cap', cur, h1, h2, h3, _⟩
    · cases h1
    · simp only [Value.slice.injEq, Option.some.injEq, Addr.mk.injEq, and_true] at h1
      obtain ⟨rfl, -⟩ := h1
      exact ⟨cur, h3⟩
  refine ⟨g, 0, cap, cur, by rw [hn], hcur, fun i c hc => ?_⟩
  have := h.cells (g := g) rfl i c hc
  rwa [Addr.add_lit] at this

/-- what ListDo answers -/
def DoPost (w : World) (xs : List Int) (k : Nat) (I E V : Int) (e : Ending) (w' : World) : Prop :=
  ∃ v, e = .returned (.tuple #[v, .bool (stepOf xs k I E V).isSome]) ∧ SlS w' v (((stepOf xs k I E V).getD xs).map (Value.int .i64)) ∧ Below w.heap.size w w'

theorem made0 (w : World) (st : Array Value) : ((w.alloc (.cells st 42)).alloc (.cells #[] 2)).ownsRow w.heap.size 2 1 (.slice (some ⟨w.heap.size + 1, 0, none⟩) 0 0) 0 [] := by
  have := World.ownsRow_made (base := w.heap.size) (e := 2) (size := 1) (w.alloc (.cells st 42)) #[] 0 (by simp) (by decide) rfl
  simpa using this

/-- the copy that ListDo begins with -/
def DoAt (w : World) (st : Array Value) (xs : List Int) (v : Value) (w' : World) : Prop :=
  ∃ g cap, v = .slice (some ⟨g, 0, none⟩) xs.length cap ∧ w'.ownsRow w.heap.size 2 1 (.slice (some ⟨g, 0, none⟩) xs.length cap) xs.length (xs.map (Value.int .i64)) ∧ Below w.heap.size w w' ∧
    w'.heap[w.heap.size]? = some (.cells st 42 (0, 0)) ∧ g ≠ w.heap.size

theorem do_at0 (w : World) (st : Array Value) : DoAt w st [] (.slice (some ⟨w.heap.size + 1, 0, none⟩) 0 0) ((w.alloc (.cells st 42)).alloc (.cells #[] 2)) :=
  ⟨w.heap.size + 1, 0, rfl, made0 w st, ((Below.refl _ w).alloc (Nat.le_refl _) _).alloc (by simp) _, by
    rw [Below.heap_alloc _ _ _ (by simp)]; exact heap_alloc_last w _, by omega⟩

theorem do_at1 {w v1w : World} {st : Array Value} {xs : List Int} {v1 : Value} (h : v1w.ownsRow w.heap.size 2 1 v1 xs.length (xs.map (Value.int .i64)))
    (hg : ((w.alloc (.cells st 42)).alloc (.cells #[] 2)).grownBy v1w (Value.ownBlock (.slice (some ⟨w.heap.size + 1, 0, none⟩) 0 0)))
    (hn : ¬ v1 = .slice none 0 0) : DoAt w st xs v1 v1w := by
  have hB : Below w.heap.size w v1w := Below.grown (((Below.refl _ w).alloc (Nat.le_refl _) (.cells st 42)).alloc (by simp) (.cells #[] 2)) hg (by simp; omega) (fun k hk => by
    simp only [Value.ownBlock, Option.some.injEq] at hk; omega)
  have hst : v1w.heap[w.heap.size]? = some (.cells st 42 (0, 0)) := by
    rw [hg.block w.heap.size (by simp; omega) (by simp [Value.ownBlock]), Below.heap_alloc _ _ _ (by simp)]; exact heap_alloc_last w _
  rcases h.2 with ⟨h1, _⟩ | ⟨g, cap, cur, h1, h2, h3, _⟩
  · exact absurd h1 hn
  · refine ⟨g, cap, h1, h1 ▸ h, hB, hst, fun e => ?_⟩
    rw [e, hst] at h3
    simp only [Option.some.injEq, Obj.cells.injEq] at h3
    exact absurd h3.2.1 (by decide)

theorem ints_one (xs : List Int) : ∀ u ∈ xs.map (Value.int .i64), u.oneCell' = true := fun u hu => by
  obtain ⟨x, _, rfl⟩ := List.mem_map.1 hu
  rfl

theorem do_news {w : World} {st : Array Value} {ad : Addr} {xs : List Int} {n cap : Nat} (h : SlN w (.slice (some ad) (xs.map (Value.int .i64)).length cap) (xs.map (Value.int .i64))) (_ : n = (xs.map (Value.int .i64)).length) :
    ∀ j u, (xs.map (Value.int .i64))[j]? = some u → ((w.alloc (.cells st 42)).alloc (.cells #[] 2)).cell? (ad.add j) = some u := fun j u hu => by
  obtain ⟨a, c, h1, _, h2⟩ := h
  obtain ⟨g, o, h3, h4⟩ := h2 j u hu
  simp only [Value.slice.injEq] at h1
  obtain ⟨h1, -⟩ := h1
  rw [h3] at h1
  simp only [Option.some.injEq] at h1
  subst h1
  have hB : Below w.heap.size w ((w.alloc (.cells st 42)).alloc (.cells #[] 2)) := ((Below.refl _ w).alloc (Nat.le_refl _) _).alloc (by simp) _
  rw [Addr.add_lit]
  exact (hB.cell (World.block_lt_of_cell? w _ h4)).trans h4


/-- behind one append to the copy -/
theorem do_end {w w2 A : World} {v2 : Value} {g gc n m k : Nat} {xs ys : List Int} {I E V : Int} {zs : List Value} (hB : Below w.heap.size w A) (hgr : A.grownBy w2 (Value.ownBlock (.slice (some ⟨g, 0, none⟩) m gc))) (hg : w.heap.size ≤ g)
    (ho : w2.ownsRow w.heap.size 2 1 v2 n zs) (hn : ¬ v2 = .slice none 0 0) (hz : zs = ys.map (Value.int .i64)) (hs : stepOf xs k I E V = some ys) :
    DoPost w xs k I E V (.returned (.tuple #[v2, .bool true])) w2 := by
  subst hz
  refine ⟨v2, by rw [hs]; rfl, ?_, Below.grown hB hgr (hB.size) fun k hk => ?_⟩
  · rw [hs]
    rcases ho.2 with ⟨h1, _⟩ | ⟨g', cap, cur, h1, h2, h3, _⟩
    · exact absurd h1 hn
    · subst h1
      have hl : ys.length = n := by have := ho.1; simpa using this
      exact SlS.of_own ho
  · simp only [Value.ownBlock, Option.some.injEq] at hk; omega

/-- a slice that was built with one item is the call's own -/
theorem built1 (w : World) {B : Nat} (x : Value) (h : B ≤ w.heap.size) : (w.alloc (.cells #[x] 2)).ownsRow B 2 1 (.slice (some ⟨w.heap.size, 0, none⟩) 1 1) 1 [x] :=
  ⟨rfl, .inr ⟨w.heap.size, 1, #[x], rfl, h, heap_alloc_last w _, Nat.le_refl _, by unfold maxLen; omega, rfl, rfl⟩⟩
theorem own_news {w : World} {B n g cap : Nat} {e : TypeId} {cs : List Value} (h : w.ownsRow B e 1 (.slice (some ⟨g, 0, none⟩) n cap) n cs) (o : Obj) : ∀ j u, cs[j]? = some u → (w.alloc o).cell? ((⟨g, 0, none⟩ : Addr).add j) = some u :=
  (h.alloc o).cells (g := g) rfl

theorem own_free {w : World} {B n g cap i : Nat} {e : TypeId} {cs : List Value} (h : w.ownsRow B e 1 (.slice (some ⟨g, 0, none⟩) n cap) n cs) (_hn : i < n) : w.frozen? ⟨g, i, none⟩ = false := by
  rcases h.2 with ⟨h1, _⟩ | ⟨g', cap', cur, h1, h2, h3, _⟩
  · cases h1
  · simp only [Value.slice.injEq, Option.some.injEq, Addr.mk.injEq, true_and, and_true] at h1
    obtain ⟨rfl, -⟩ := h1
    exact frozen_of_row _ _ _ _ _ h3
theorem own_cell {w : World} {B n g cap i : Nat} {e : TypeId} {cs : List Value} {u : Value} (h : w.ownsRow B e 1 (.slice (some ⟨g, 0, none⟩) n cap) n cs) (hu : cs[i]? = some u) : w.cell? ⟨g, i, none⟩ = some u := by
  have := h.cells (g := g) rfl i u hu
  rwa [Addr.add_lit, Nat.zero_add] at this
theorem own_room {w : World} {B n g cap : Nat} {e : TypeId} {cs : List Value} (h : w.ownsRow B e 1 (.slice (some ⟨g, 0, none⟩) n cap) n cs) : n ≤ cap := by
  rcases h.2 with ⟨h1, _⟩ | ⟨g', cap', cur, h1, h2, h3, h4, _⟩
  · cases h1
  · simp only [Value.slice.injEq] at h1
    omega

/-- the copy, one item of it written -/
theorem do_set {w wc : World} {xs : List Int} {g gc i : Nat} {E V : Int} (hB : Below w.heap.size w wc) (ho : wc.ownsRow w.heap.size 2 1 (.slice (some ⟨g, 0, none⟩) xs.length gc) xs.length (xs.map (Value.int .i64))) (hi : i < xs.length) :
    DoPost w xs 2 i E V (.returned (.tuple #[.slice (some ⟨g, 0, none⟩) xs.length gc, .bool true])) (wc.setCell ⟨g, i, none⟩ (.int .i64 V)) := by
  have hs : stepOf xs 2 i E V = some (xs.set i V) := by
    unfold stepOf
    rw [if_neg (by decide), if_neg (by decide), if_pos rfl, if_pos (by omega)]
    simp
  refine ⟨_, by rw [hs]; rfl, ?_, hB.setCell (ho.lt g rfl).1 _⟩
  rw [hs]
  obtain ⟨cur, hcur⟩ : ∃ cur, wc.heap[g]? = some (.cells cur 2 (0, 0)) := by
    obtain ⟨_, _, _, cur, h1, h2, _⟩ := SlS.of_own ho
    simp only [Value.slice.injEq, Option.some.injEq, Addr.mk.injEq, and_true] at h1
    obtain ⟨⟨rfl, -⟩, -⟩ := h1
    exact ⟨cur, h2⟩
  refine ⟨g, 0, gc, _, by simp, heap_setCell_same _ _ _ _ _ _ hcur, fun j c hc => ?_⟩
  rw [Nat.zero_add]
  simp only [Option.getD_some, List.getElem?_map, Option.map_eq_some_iff] at hc
  obtain ⟨y, hy, rfl⟩ := hc
  by_cases e : i = j
  · subst e
    rw [List.getElem?_set_self hi] at hy
    cases hy
    obtain ⟨x, hx⟩ : ∃ x, xs[i]? = some x := ⟨xs[i], List.getElem?_eq_getElem hi⟩
    exact World.cell?_setCell_same _ _ _ (own_cell ho (u := .int .i64 x) (by rw [List.getElem?_map, hx]; rfl))
  · rw [List.getElem?_set_ne e] at hy
    rw [World.cell?_setCell_other _ _ _ _ (fun h => e (Addr.mk.inj h).2.1)]
    exact own_cell ho (by rw [List.getElem?_map, hy]; rfl)

/-- the copy as it is -/
theorem do_same {w wc : World} {xs : List Int} {g gc k : Nat} {I E V : Int} (hB : Below w.heap.size w wc) (ho : wc.ownsRow w.heap.size 2 1 (.slice (some ⟨g, 0, none⟩) xs.length gc) xs.length (xs.map (Value.int .i64))) (hs : stepOf xs k I E V = none) :
    DoPost w xs k I E V (.returned (.tuple #[.slice (some ⟨g, 0, none⟩) xs.length gc, .bool false])) wc := by
  refine ⟨_, by rw [hs]; rfl, ?_, hB⟩
  rw [hs]
  exact SlS.of_own ho

/-- a part of the copy -/
theorem do_cut {w wc : World} {xs : List Int} {g gc lo hi : Nat} {V : Int} (hB : Below w.heap.size w wc) (ho : wc.ownsRow w.heap.size 2 1 (.slice (some ⟨g, 0, none⟩) xs.length gc) xs.length (xs.map (Value.int .i64))) (h1 : lo ≤ hi) (h2 : hi ≤ xs.length) :
    ∃ a' c', (∀ w', (Instr.sliceAt 32 (.slice (some ⟨g, 0, none⟩) xs.length gc) (some (.int .i64 (lo : Int))) (some (.int .i64 (hi : Int))) none).run Try.prog w' = .ok (.slice (some a') (hi - lo) c') w') ∧
      DoPost w xs 3 lo hi V (.returned (.tuple #[.slice (some a') (hi - lo) c', .bool true])) wc := by
  have hs : stepOf xs 3 lo hi V = some ((xs.drop lo).take (hi - lo)) := by
    unfold stepOf
    rw [if_neg (by decide), if_neg (by decide), if_neg (by decide), if_pos rfl, if_pos (by omega)]
    simp
  have hr := own_room ho
  refine ⟨⟨g, if gc = lo then 0 else lo, none⟩, gc - lo, fun w' => ?_, _, by rw [hs]; rfl, ?_, hB⟩
  · rw [run_sliceAt_slice w' 32 _ _ _ _ und32, run_slice_lh w' 32 _ _ gc und32 .i64 .i64 lo hi (by omega) (by omega) (by omega), size32]
    simp only [Result.andThen_ok, sliced, Int.toNat_natCast]
    by_cases e : gc = lo
    · rw [if_pos e, if_pos e]
    · rw [if_neg e, if_neg e, Option.map_some, Addr.add_lit, Nat.zero_add, Nat.mul_one]
  · rw [hs]
    have hl : (((xs.drop lo).take (hi - lo)).map (Value.int .i64)).length = hi - lo := by simp; omega
    obtain ⟨cur, hcur⟩ : ∃ cur, wc.heap[g]? = some (.cells cur 2 (0, 0)) := by
      obtain ⟨_, _, _, cur, h1, h2, _⟩ := SlS.of_own ho
      simp only [Value.slice.injEq, Option.some.injEq, Addr.mk.injEq, and_true] at h1
      obtain ⟨⟨rfl, -⟩, -⟩ := h1
      exact ⟨cur, h2⟩
    refine ⟨g, _, gc - lo, cur, by rw [Option.getD_some, hl], hcur, fun j c hc => ?_⟩
    simp only [Option.getD_some, List.getElem?_map, Option.map_eq_some_iff] at hc
    obtain ⟨y, hy, rfl⟩ := hc
    rw [List.getElem?_take] at hy
    split at hy
    · rw [List.getElem?_drop] at hy
      have hjl : lo + j < xs.length := (List.getElem?_eq_some_iff.1 hy).1
      rw [if_neg (by omega)]
      exact own_cell ho (by rw [List.getElem?_map, hy]; rfl)
    · cases hy

theorem do_cut' {w wc : World} {xs : List Int} {g gc : Nat} {I E V : Int} (hB : Below w.heap.size w wc) (ho : wc.ownsRow w.heap.size 2 1 (.slice (some ⟨g, 0, none⟩) xs.length gc) xs.length (xs.map (Value.int .i64))) (h0 : 0 ≤ I) (h1 : I ≤ E) (h2 : E ≤ xs.length) :
    ∃ a' n' c', (∀ w', (Instr.sliceAt 32 (.slice (some ⟨g, 0, none⟩) xs.length gc) (some (.int .i64 I)) (some (.int .i64 E)) none).run Try.prog w' = .ok (.slice (some a') n' c') w') ∧
      DoPost w xs 3 I E V (.returned (.tuple #[.slice (some a') n' c', .bool true])) wc := by
  obtain ⟨lo, rfl⟩ : ∃ i : Nat, I = i := ⟨I.toNat, by omega⟩
  obtain ⟨hi, rfl⟩ : ∃ i : Nat, E = i := ⟨E.toNat, by omega⟩
  obtain ⟨a', c', h3, h4⟩ := do_cut (V := V) hB ho (lo := lo) (hi := hi) (by omega) (by omega)
  exact ⟨a', _, c', h3, h4⟩

/-- one item behind the copy -/
theorem do_push {w wr w2 : World} {st : Array Value} {ys : List Int} {y : Int} {g gc n : Nat} {zs : List Value} {v2 : Value} (hB : Below w.heap.size w wr) (hbs : wr.heap[w.heap.size]? = some (.cells st 42 (0, 0))) (hgb : g ≠ w.heap.size)
    (ho : wr.ownsRow w.heap.size 2 1 (.slice (some ⟨g, 0, none⟩) ys.length gc) ys.length (ys.map (Value.int .i64)))
    (hg : (wr.alloc (.cells #[.int .i64 y] 2)).grownBy w2 (Value.ownBlock (.slice (some ⟨g, 0, none⟩) ys.length gc))) (ho2 : w2.ownsRow w.heap.size 2 1 v2 n zs) (hz : zs = (ys ++ [y]).map (Value.int .i64)) (hn : ¬ v2 = .slice none 0 0) :
    DoAt w st (ys ++ [y]) v2 w2 := by
  subst hz
  have hl : (ys ++ [y]).length = n := by have := ho2.1; simpa using this
  have hB2 : Below w.heap.size w w2 := Below.grown (hB.alloc hB.size (.cells #[.int .i64 y] 2)) hg (by have := hB.size; simp; omega) fun k hk => by
    simp only [Value.ownBlock, Option.some.injEq] at hk
    have := (ho.lt g rfl).1
    omega
  have hst : w2.heap[w.heap.size]? = some (.cells st 42 (0, 0)) := by
    have := lt_of_block hbs
    rw [hg.block w.heap.size (by simp; omega) (by simp [Value.ownBlock]; omega), Below.heap_alloc _ _ _ this]; exact hbs
  rcases ho2.2 with ⟨h1, _⟩ | ⟨g', cap, cur, h1, h2, h3, _⟩
  · exact absurd h1 hn
  · subst hl
    refine ⟨g', cap, h1, h1 ▸ ho2, hB2, hst, fun e => ?_⟩
    rw [e, hst] at h3
    simp only [Option.some.injEq, Obj.cells.injEq] at h3
    exact absurd h3.2.1 (by decide)
theorem do_done {w wr : World} {st : Array Value} {xs ys : List Int} {v : Value} {k : Nat} {I E V : Int} (h : DoAt w st ys v wr) (hs : stepOf xs k I E V = some ys) : DoPost w xs k I E V (.returned (.tuple #[v, .bool true])) wr := by
  obtain ⟨g, cap, rfl, ho, hb, _⟩ := h
  refine ⟨_, by rw [hs]; rfl, ?_, hb⟩
  rw [hs]
  exact SlS.of_own ho

/-- the front that a step of kind 5 makes -/
def FrL (wc : World) (ys : List Int) (v : Value) (wr : World) : Prop :=
  ∃ g c, v = .slice (some ⟨g, 0, none⟩) ys.length c ∧ wr.ownsRow wc.heap.size 2 1 (.slice (some ⟨g, 0, none⟩) ys.length c) ys.length (ys.map (Value.int .i64)) ∧ Below wc.heap.size wc wr
theorem fr_push {wc wr w2 : World} {ys : List Int} {y : Int} {g gc n : Nat} {zs : List Value} {v2 : Value} (hB : Below wc.heap.size wc wr)
    (ho : wr.ownsRow wc.heap.size 2 1 (.slice (some ⟨g, 0, none⟩) ys.length gc) ys.length (ys.map (Value.int .i64)))
    (hg : (wr.alloc (.cells #[.int .i64 y] 2)).grownBy w2 (Value.ownBlock (.slice (some ⟨g, 0, none⟩) ys.length gc))) (ho2 : w2.ownsRow wc.heap.size 2 1 v2 n zs) (hz : zs = (ys ++ [y]).map (Value.int .i64)) (hn : ¬ v2 = .slice none 0 0) :
    FrL wc (ys ++ [y]) v2 w2 := by
  subst hz
  have hl : (ys ++ [y]).length = n := by have := ho2.1; simpa using this
  have hB2 : Below wc.heap.size wc w2 := Below.grown (hB.alloc hB.size (.cells #[.int .i64 y] 2)) hg (by have := hB.size; simp; omega) fun k hk => by
    simp only [Value.ownBlock, Option.some.injEq] at hk
    have := (ho.lt g rfl).1
    omega
  rcases ho2.2 with ⟨h1, _⟩ | ⟨g', cap, cur, h1, h2, h3, _⟩
  · exact absurd h1 hn
  · subst hl
    exact ⟨g', cap, h1, h1 ▸ ho2, hB2⟩
theorem fr_done {w wc wr w2 : World} {xs ys : List Int} {g gc n : Nat} {zs : List Value} {v2 : Value} {I E V : Int} (hW : Below w.heap.size w wc) (hB : Below wc.heap.size wc wr)
    (ho : wr.ownsRow wc.heap.size 2 1 (.slice (some ⟨g, 0, none⟩) ys.length gc) ys.length (ys.map (Value.int .i64)))
    (hg : wr.grownBy w2 (Value.ownBlock (.slice (some ⟨g, 0, none⟩) ys.length gc))) (ho2 : w2.ownsRow wc.heap.size 2 1 v2 n zs) (hz : zs = (ys ++ xs).map (Value.int .i64)) (hn : ¬ v2 = .slice none 0 0) (hs : stepOf xs 5 I E V = some (ys ++ xs)) :
    DoPost w xs 5 I E V (.returned (.tuple #[v2, .bool true])) w2 := by
  subst hz
  have hl : (ys ++ xs).length = n := by have := ho2.1; simpa using this
  have hB2 : Below wc.heap.size wc w2 := Below.grown hB hg (hB.size) fun k hk => by
    simp only [Value.ownBlock, Option.some.injEq] at hk
    have := (ho.lt g rfl).1
    omega
  refine ⟨v2, by rw [hs]; rfl, ?_, hW.trans (hB2.mono hW.size)⟩
  rw [hs]
  rcases ho2.2 with ⟨h1, _⟩ | ⟨g', cap, cur, h1, h2, h3, _⟩
  · exact absurd h1 hn
  · subst h1
    subst hl
    exact SlS.of_own ho2

theorem up_rev {N m : Nat} (V : Int) (h : m < N) : (up N V).reverse.take (m + 1) = (up N V).reverse.take m ++ [wrap64 (V + ((N : Int) - 1 - m))] := by
  have hl : (up N V).length = N := by simp [up]
  have hm : m < (up N V).reverse.length := by rw [List.length_reverse, hl]; exact h
  rw [List.take_add_one, List.getElem?_eq_getElem hm, List.getElem_reverse]
  simp only [up, List.length_map, List.length_range, List.getElem_map, List.getElem_range, Option.toList_some]
  congr 4
  omega

theorem own_newsB {wc wr : World} {B n g cap : Nat} {e : TypeId} {cs : List Value} (h : wc.ownsRow B e 1 (.slice (some ⟨g, 0, none⟩) n cap) n cs) (hb : Below wc.heap.size wc wr) : ∀ j u, cs[j]? = some u → wr.cell? ((⟨g, 0, none⟩ : Addr).add j) = some u := fun j u hu => by
  have h1 := h.cells (g := g) rfl j u hu
  rw [Addr.add_lit] at h1 ⊢
  exact (hb.cell (h.lt g rfl).2).trans h1

end Go.Proofs.Ytnahipfdnadccaa
