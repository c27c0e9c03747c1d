/- spec.ListVersions. Conditions of this file: none. -/
import Derived.Test.YtnahipfdnadccaaDoA
import Derived.Test.YtnahipfdnadccaaDoB
import Derived.Test.YtnahipfdnadccaaVeil
namespace Go.Proofs.Ytnahipfdnadccaa
open Go.RowKit

/-- ListDo, a step of any kind -/
theorem do_any (u : Value) (xs : List Int) (k : Nat) (F I E V : Int) (w : World) (hs : SlN w u (xs.map (Value.int .i64))) (hl : xs.length ≤ 2147483647) (hk : k ≤ 5) (hI : 4 ≤ k → 0 ≤ I ∧ I ≤ 100000) :
    Calls Try.prog 32 #[u, .agg #[.int .u8 (k : Int), .int .i64 F, .int .i64 I, .int .i64 E, .int .i64 V]] w (DoPost w xs k I E V) := by
  match k, hk with
  | 0, _ => exact do_w0 u xs F I E V w hs hl
  | 1, _ => exact do_w1 u xs F I E V w hs hl
  | 2, _ => exact do_w2 u xs F I E V w hs hl
  | 3, _ => exact do_w3 u xs F I E V w hs hl
  | 4, _ => exact do_w4 u xs F I E V w hs hl (hI (by omega))
  | 5, _ => exact do_w5 u xs F I E V w hs hl (hI (by omega))

/-- sv is a slice of steps -/
def StpV (w : World) (sv : Value) (steps : List Stp) : Prop :=
  ∃ (a : Option Addr) (cap : Nat), sv = .slice a steps.length cap ∧ ∀ j s, steps[j]? = some s → ∃ sb so, a = some ⟨sb, so, none⟩ ∧ ∀ i u, s.cells[i]? = some u → w.cell? ⟨sb, so + j * 5 + i, none⟩ = some u
theorem StpV.below {w w' : World} {sv : Value} {steps : List Stp} (h : StpV w sv steps) (b : Below w.heap.size w w') : StpV w' sv steps := by
  obtain ⟨a, cap, h1, h2⟩ := h
  refine ⟨a, cap, h1, fun j s hs => ?_⟩
  obtain ⟨sb, so, h3, h4⟩ := h2 j s hs
  exact ⟨sb, so, h3, fun i u hu => (b.cell (World.block_lt_of_cell? w _ (h4 i u hu))).trans (h4 i u hu)⟩

/-- what ListVersions has made -/
structure SV (w : World) (vs : List (List Int)) (ps : List Bool) (l p : Value) (T : Nat) (wr : World) : Prop where
  below : Below w.heap.size w wr
  ownP : wr.ownsRow w.heap.size 4 1 p ps.length (ps.map Value.bool)
  ownL : ∃ us : List Value, wr.ownsRow w.heap.size 32 1 l vs.length us ∧ us.length = vs.length ∧ ∀ (i : Nat) (u : Value), us[i]? = some u → ∃ xs : List Int, vs[i]? = some xs ∧ SlS wr u (xs.map (Value.int .i64)) ∧ xs.length ≤ T

theorem SV.step {w wr w' : World} {vs : List (List Int)} {ps : List Bool} {l p : Value} {T : Nat} (h : SV w vs ps l p T wr) (b : Below wr.heap.size wr w') : SV w vs ps l p T w' := by
  obtain ⟨us, h1, h2, h3⟩ := h.ownL
  refine ⟨h.below.trans (b.mono h.below.size), own_below h.ownP b, us, own_below h1 b, h2, fun i u hu => ?_⟩
  obtain ⟨xs, h4, h5, h6⟩ := h3 i u hu
  exact ⟨xs, h4, h5.below b, h6⟩

theorem grown_keep2 {A w' : World} {B n : Nat} {e : TypeId} {l : Value} {us : List Value} {o : Obj} (ho : A.ownsRow B e 1 l n us) (he : e ≠ 2) (hg : (A.alloc o).grownBy w' l.ownBlock) :
    ∀ (g : Nat) (cur : Array Value), A.heap[g]? = some (Obj.cells cur 2 (0, 0)) → w'.heap[g]? = A.heap[g]? := fun g cur h => by
  have hlt := lt_of_block h
  rw [hg.block g (by simp; omega) (fun e1 => ?_), Below.heap_alloc _ _ _ hlt]
  rcases ho.2 with ⟨h1, _⟩ | ⟨g', cap, c, h1, _, h2, _⟩
  · rw [h1] at e1; cases e1
  · rw [h1] at e1
    simp only [Value.ownBlock, Option.some.injEq] at e1
    subst e1
    rw [h2] at h
    simp only [Option.some.injEq, Obj.cells.injEq] at h
    exact he h.2.1

theorem sv_push {w A w1 w2 : World} {vs : List (List Int)} {ps : List Bool} {l p v l' p' : Value} {us : List Value} {ys : List Int} {b : Bool} {n m T T' : Nat} {zl zp : List Value}
    (hB : Below w.heap.size w A) (hP : A.ownsRow w.heap.size 4 1 p ps.length (ps.map Value.bool)) (hL : A.ownsRow w.heap.size 32 1 l vs.length us) (hul : us.length = vs.length)
    (hall : ∀ (i : Nat) (u : Value), us[i]? = some u → ∃ xs : List Int, vs[i]? = some xs ∧ SlS A u (xs.map (Value.int .i64)) ∧ xs.length ≤ T) (hy : SlS A v (ys.map (Value.int .i64))) (hyl : ys.length ≤ T') (hTT : T ≤ T')
    (h1 : w1.ownsRow w.heap.size 32 1 l' n zl) (hg1 : (A.alloc (.cells #[v] 32)).grownBy w1 l.ownBlock) (h2 : w2.ownsRow w.heap.size 4 1 p' m zp) (hg2 : (w1.alloc (.cells #[.bool b] 4)).grownBy w2 p.ownBlock)
    (hn : n = vs.length + 1) (hm : m = ps.length + 1) (hzl : zl = us ++ [v]) (hzp : zp = (ps ++ [b]).map Value.bool) : SV w (vs ++ [ys]) (ps ++ [b]) l' p' T' w2 := by
  subst hn
  subst hm
  subst hzl
  subst hzp
  have hP1 : w1.ownsRow w.heap.size 4 1 p ps.length (ps.map Value.bool) := (hP.alloc (.cells #[v] 32)).kept hg1 (own_ne hP hL (by decide))
  have hB1 := below_grown (hB.alloc hB.size (.cells #[v] 32)) hL (Nat.le_refl _) (Nat.le_refl _) hg1
  have hL2 : w2.ownsRow w.heap.size 32 1 l' (vs.length + 1) (us ++ [v]) := (h1.alloc (.cells #[.bool b] 4)).kept hg2 (own_ne h1 hP1 (by decide))
  have hB2 := below_grown (hB1.alloc hB1.size (.cells #[.bool b] 4)) hP1 (Nat.le_refl _) (Nat.le_refl _) hg2
  have k1 := grown_keep2 hL (by decide) hg1
  have k2 := grown_keep2 hP1 (by decide) hg2
  have key : ∀ {u : Value} {cs : List Value}, SlS A u cs → SlS w2 u cs := fun h => (h.keep k1).keep k2
  refine ⟨hB2, by simpa using h2, us ++ [v], by simpa using hL2, by simp [hul], fun i q hq => ?_⟩
  rcases Nat.lt_or_ge i us.length with h | h
  · rw [List.getElem?_append_left h] at hq
    obtain ⟨xs, h3, h4, h5⟩ := hall i q hq
    exact ⟨xs, by rw [List.getElem?_append_left (by omega)]; exact h3, key h4, Nat.le_trans h5 hTT⟩
  · rw [List.getElem?_append_right h] at hq
    have : i - us.length = 0 := by
      rcases Nat.eq_zero_or_pos (i - us.length) with h | h
      · exact h
      · rw [List.getElem?_eq_none (by simp; omega)] at hq; cases hq
    rw [this] at hq
    simp only [List.getElem?_cons_zero, Option.some.injEq] at hq
    subst hq
    exact ⟨ys, by rw [List.getElem?_append_right (by omega), show i - vs.length = 0 by omega]; rfl, key hy, hyl⟩

theorem builtE (w : World) {B : Nat} (x : Value) (e : TypeId) (h : B ≤ w.heap.size) : (w.alloc (.cells #[x] e)).ownsRow B e 1 (.slice (some ⟨w.heap.size, 0, none⟩) 1 1) 1 [x] :=
  ⟨rfl, .inr ⟨w.heap.size, 1, #[x], rfl, h, heap_alloc_last w _, Nat.le_refl _, by unfold maxLen; omega, rfl, rfl⟩⟩
theorem made0' (w : World) : (w.alloc (.cells #[] 2)).ownsRow w.heap.size 2 1 (.slice (some ⟨w.heap.size, 0, none⟩) 0 0) 0 [] :=
  World.ownsRow_made (base := w.heap.size) (e := 2) (size := 1) w #[] 0 (Nat.le_refl _) (by decide) rfl

/-- the first version stands -/
theorem sv_first {w A : World} {u : Value} {xs : List Int} (hB : Below w.heap.size w A) (hu : SlS A u (xs.map (Value.int .i64))) :
    SV w [xs] [] (.slice (some ⟨A.heap.size, 0, none⟩) 1 1) (.slice none 0 0) xs.length (A.alloc (.cells #[u] 32)) := by
  refine ⟨hB.alloc hB.size _, World.ownsRow_nil _ _ _ _, [u], builtE A u 32 hB.size, rfl, fun i q hq => ?_⟩
  have hi : i = 0 := by
    rcases Nat.eq_zero_or_pos i with h | h
    · exact h
    · rw [List.getElem?_eq_none (by simp; omega)] at hq; cases hq
  subst hi
  simp only [List.getElem?_cons_zero, Option.some.injEq] at hq
  subst hq
  exact ⟨xs, rfl, hu.below ((Below.refl _ A).alloc (Nat.le_refl _) _), Nat.le_refl _⟩

theorem first_own {w w1 : World} {v1 : Value} {xs : List Int} (h : w1.ownsRow w.heap.size 2 1 v1 xs.length (xs.map (Value.int .i64))) (hn : ¬ v1 = .slice none 0 0) (hg : (w.alloc (.cells #[] 2)).grownBy w1 (Value.ownBlock (.slice (some ⟨w.heap.size, 0, none⟩) 0 0))) :
    SlS w1 v1 (xs.map (Value.int .i64)) ∧ Below w.heap.size w w1 := by
  refine ⟨?_, Below.grown ((Below.refl _ w).alloc (Nat.le_refl _) (.cells #[] 2)) hg (by simp) fun k hk => by simp only [Value.ownBlock, Option.some.injEq] at hk; omega⟩
  rcases h.2 with ⟨h1, _⟩ | ⟨g, cap, cur, h1, _⟩
  · exact absurd h1 hn
  · subst h1
    exact SlS.of_own h

theorem first_news {w : World} {ad : Addr} {xs : List Int} {cap : Nat} (h : SlN w (.slice (some ad) (xs.map (Value.int .i64)).length cap) (xs.map (Value.int .i64))) :
    ∀ j u, (xs.map (Value.int .i64))[j]? = some u → (w.alloc (.cells #[] 2)).cell? (ad.add j) = some u := fun j u hu => by
  obtain ⟨a, c, h1, _, h2⟩ := h
  obtain ⟨g, o, h3, h4⟩ := h2 j u hu
  simp only [Value.slice.injEq] at h1
  obtain ⟨h1, -⟩ := h1
  rw [h3] at h1
  simp only [Option.some.injEq] at h1
  subst h1
  have hB : Below w.heap.size w (w.alloc (.cells #[] 2)) := (Below.refl _ w).alloc (Nat.le_refl _) _
  rw [Addr.add_lit]
  exact (hB.cell (World.block_lt_of_cell? w _ h4)).trans h4

/-- a step that is asked -/
def Asked (most n : Nat) (s : Stp) : Prop := s.k ≤ 5 ∧ 0 ≤ s.F ∧ s.F < n ∧ (4 ≤ s.k → 0 ≤ s.I ∧ s.I ≤ most)

theorem Asked.ok {most n : Nat} {s : Stp} (h : Asked most n s) (hm : most ≤ 100000) : s.ok n = true := by
  obtain ⟨h1, h2, h3, h4⟩ := h
  unfold Stp.ok
  simp only [Bool.and_eq_true, decide_eq_true_eq, Bool.or_eq_true]
  refine ⟨h2, h3, ?_, h1⟩
  by_cases h5 : 4 ≤ s.k
  · have := h4 h5
    exact .inr ⟨this.1, by omega⟩
  · exact .inl ⟨by omega, by omega⟩

theorem stepOf_len {xs ys : List Int} {k : Nat} {I E V : Int} (h : stepOf xs k I E V = some ys) (hI : 4 ≤ k → 0 ≤ I ∧ I ≤ 100000) : ys.length ≤ xs.length + 100001 := by
  unfold stepOf at h
  split at h
  · cases h; simp
  split at h
  · cases h; simp
  split at h
  · split at h
    · cases h; simp
    · cases h
  split at h
  · split at h
    · cases h; simp; omega
    · cases h
  split at h
  · cases h
    have := hI (by omega)
    simp [up]; omega
  · cases h
    by_cases h4 : 4 ≤ k
    · have := hI h4
      simp [up]; omega
    · omega

theorem make_ok2 {s : Stp} {vs : List (List Int)} {xs : List Int} (h : s.ok vs.length = true) (hx : vs[s.F.toNat]? = some xs) :
    s.make vs = match stepOf xs s.k s.I s.E s.V with | some ys => (ys, false) | none => (xs, true) := by
  unfold Stp.make
  rw [if_pos h]
  have : vs.getD s.F.toNat [] = xs := by simp [List.getD, hx]
  rw [this]
  cases stepOf xs s.k s.I s.E s.V <;> rfl

theorem SlS.shape {w : World} {u : Value} {xs : List Int} (h : SlS w u (xs.map (Value.int .i64))) : ∃ g o c, u = .slice (some ⟨g, o, none⟩) xs.length c := by
  obtain ⟨g, o, c, _, rfl, _⟩ := h
  exact ⟨g, o, c, by rw [List.length_map]⟩

end Go.Proofs.Ytnahipfdnadccaa
