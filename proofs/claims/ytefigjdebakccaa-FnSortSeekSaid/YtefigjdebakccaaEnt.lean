/- Rows of pairs: made, and their cells. -/
import Derived.Test.YtefigjdebakccaaGet
namespace Go.Proofs.Ytefigjdebakccaa
open Go.RowKit

theorem info140 : (Try.prog.info? 140).map (fun i => (i.size, i.bytes, i.zero)) = some (2, 16, some (.agg #[.int .i64 0, .int .i64 0])) := by kernel_rfl
theorem size140 : (Try.prog.info? 140).map (·.size) = some 2 := by kernel_rfl
/-- make of a row of pairs -/
theorem make141 (w : World) (c : Nat) (hc : c ≤ 1000000000) : ∃ Z : List Value, Z.length = c * 2 ∧
    (Instr.makeSlice 141 (.int .i64 (c : Int)) (.int .i64 (c : Int))).run Try.prog w = .ok (.slice (some ⟨w.heap.size, 0, none⟩) c c) (w.alloc (.cells Z.toArray 140)) := by
  have h := info140
  cases hq : Try.prog.info? 140 with
  | none => rw [hq] at h; cases h
  | some i =>
    rw [hq] at h
    simp only [Option.map_some, Option.some.injEq, Prod.mk.injEq] at h
    obtain ⟨h1, h2, h3⟩ := h
    have hr := run_make w 141 140 i _ Try.underlying141 hq h3 .i64 .i64 c c (by omega) (Int.le_refl _) (by rw [h2]; omega) (by omega)
    rw [h1, Int.toNat_natCast] at hr
    refine ⟨(madeCells (Value.agg #[.int .i64 0, .int .i64 0]).cells (c * 2)).toList, ?_, by rw [Array.toArray_toList]; exact hr⟩
    rw [Array.length_toList, size_madeCells]
/-- pairs as cells -/
def ecells (es : List (Int × Int)) : List Value := es.flatMap fun e => [.int .i64 e.1, .int .i64 e.2]
theorem ecells_len : ∀ es : List (Int × Int), (ecells es).length = es.length * 2
  | [] => rfl
  | a :: es => by
    have := ecells_len es
    unfold ecells at this ⊢
    rw [List.flatMap_cons, List.length_append, this]
    simp only [List.length_cons, List.length_nil]
    omega
theorem ecells_cons (a : Int × Int) (es : List (Int × Int)) : ecells (a :: es) = .int .i64 a.1 :: .int .i64 a.2 :: ecells es := rfl
theorem ecells_append (es fs : List (Int × Int)) : ecells (es ++ fs) = ecells es ++ ecells fs := by unfold ecells; rw [List.flatMap_append]
theorem ecells_at : ∀ {es : List (Int × Int)} {i : Nat} {e : Int × Int}, es[i]? = some e → (ecells es)[i * 2]? = some (.int .i64 e.1) ∧ (ecells es)[i * 2 + 1]? = some (.int .i64 e.2)
  | [], _, _, h => by simp at h
  | a :: es, 0, e, h => by
    have : a = e := by simpa using h
    subst this
    exact ⟨rfl, rfl⟩
  | a :: es, i + 1, e, h => by
    have ih := ecells_at (es := es) (i := i) (e := e) (by simpa using h)
    rw [ecells_cons, show (i + 1) * 2 = i * 2 + 1 + 1 by omega]
    simpa using ih
theorem ecells_get {es : List (Int × Int)} {j : Nat} {v : Value} (hv : (ecells es)[j]? = some v) : ∃ (i : Nat) (e : Int × Int), es[i]? = some e ∧ ((j = i * 2 ∧ v = .int .i64 e.1) ∨ (j = i * 2 + 1 ∧ v = .int .i64 e.2)) := by
  have hl : j < es.length * 2 := by
    rw [← ecells_len]
    rcases Nat.lt_or_ge j (ecells es).length with h | h
    · exact h
    · rw [List.getElem?_eq_none h] at hv; cases hv
  have hi : j / 2 < es.length := by omega
  refine ⟨j / 2, es[j / 2], List.getElem?_eq_getElem hi, ?_⟩
  obtain ⟨h1, h2⟩ := ecells_at (List.getElem?_eq_getElem hi)
  rcases Nat.mod_two_eq_zero_or_one j with h | h
  · have e : j / 2 * 2 = j := by omega
    rw [e, hv] at h1
    exact .inl ⟨e.symm, Option.some.inj h1⟩
  · have e : j / 2 * 2 + 1 = j := by omega
    rw [e, hv] at h2
    exact .inr ⟨e.symm, Option.some.inj h2⟩
theorem ecells_one {es : List (Int × Int)} : ∀ v ∈ ecells es, v.oneCell' = true := fun v hv => by
  obtain ⟨j, hj⟩ := List.getElem?_of_mem hv
  obtain ⟨i, e, _, h | h⟩ := ecells_get hj
  · rw [h.2]; rfl
  · rw [h.2]; rfl
theorem ecells_set : ∀ (es : List (Int × Int)) (i : Nat) (e : Int × Int), ((ecells es).toArray.setIfInBounds (i * 2) (.int .i64 e.1)).setIfInBounds (i * 2 + 1) (.int .i64 e.2) = (ecells (es.set i e)).toArray := by
  have key : ∀ (es : List (Int × Int)) (i : Nat) (e : Int × Int), ((ecells es).set (i * 2) (.int .i64 e.1)).set (i * 2 + 1) (.int .i64 e.2) = ecells (es.set i e) := by
    intro es
    induction es with
    | nil => intro i e; rfl
    | cons a es ih =>
      intro i e
      cases i with
      | zero => rfl
      | succ i =>
        rw [List.set_cons_succ, ecells_cons, ecells_cons, ← ih i e, show (i + 1) * 2 = i * 2 + 1 + 1 by omega]
        rfl
  intro es i e
  apply Array.ext'
  rw [← key]
  simp
theorem row_two {L : List Value} {a b u v : Value} {i : Nat} (hi : L.length = i) : ((L ++ [a, b]).toArray.setIfInBounds i u).setIfInBounds (i + 1) v = (L ++ [u, v]).toArray := by
  subst hi
  apply Array.ext'
  simp

theorem sl141 : Try.prog.underlying 141 = some (.slice (Try.prog.elem 141)) := by kernel_rfl
theorem elem141 (w : World) : (sizeOf (Try.prog.elem 141)).run Try.prog w = .ok 2 w := by kernel_rfl
/-- what is left of a row of pairs from a place on -/
theorem slice141_l (g q N c l : Nat) (hl : l ≤ N) (_hc : N ≤ c) : ∃ d : Addr, (l < c → d = ⟨g, q + l * 2, none⟩) ∧
    ∀ w : World, (Instr.slice 141 (.slice (some ⟨g, q, none⟩) N c) (some (.int .i64 (l : Int))) none none).run Try.prog w = .ok (.slice (some d) (N - l) (c - l)) w := by
  refine ⟨if c = l then ⟨g, q, none⟩ else ⟨g, q + l * 2, none⟩, fun h => by rw [if_neg (by omega)], fun w => ?_⟩
  rw [run_slice_l w 141 _ N c sl141 .i64 l (by omega) (by omega), elem141]
  simp only [Result.andThen_ok, sliced, Int.toNat_natCast, Option.map_some, addr_add]
  split <;> rfl
theorem ecells_take (es : List (Int × Int)) (i : Nat) : ecells es = ecells (es.take i) ++ ecells (es.drop i) := by rw [← ecells_append, List.take_append_drop]
/-- a row's cells as the source of a copy -/
theorem src_cells {w : World} {nb q : Nat} {es : List (Int × Int)} (hk : ∀ (i : Nat) (x : Int × Int), es[i]? = some x → w.cell? ⟨nb, q + i * 2, none⟩ = some (.int .i64 x.1) ∧ w.cell? ⟨nb, q + i * 2 + 1, none⟩ = some (.int .i64 x.2)) :
    ∀ j v, (ecells es)[j]? = some v → w.cell? ((⟨nb, q, none⟩ : Addr).add j) = some v := fun j v hv => by
  rw [addr_add]
  obtain ⟨i, e, he, ⟨rfl, rfl⟩ | ⟨rfl, rfl⟩⟩ := ecells_get hv
  · exact (hk i e he).1
  · exact (hk i e he).2
theorem ents_all {w : World} {g : Nat} {es : List (Int × Int)} (h : w.heap[g]? = some (.cells (ecells es).toArray 140 (0, 0))) : Ents w (.slice (some ⟨g, 0, none⟩) es.length es.length) es :=
  ⟨g, 0, es.length, _, rfl, h, Nat.le_refl _, fun i e hi => by
    obtain ⟨h1, h2⟩ := ecells_at hi
    rw [Nat.zero_add, List.getElem?_toArray, List.getElem?_toArray]
    exact ⟨h1, h2⟩⟩
theorem ents_take {w : World} {g k : Nat} {es : List (Int × Int)} (h : w.heap[g]? = some (.cells (ecells es).toArray 140 (0, 0))) (hk : k ≤ es.length) : Ents w (.slice (some ⟨g, 0, none⟩) k k) (es.take k) :=
  ⟨g, 0, k, _, by rw [List.length_take, Nat.min_eq_left hk], h, by rw [List.length_take]; omega, fun i e hi => by
    rw [List.getElem?_take] at hi
    split at hi
    · obtain ⟨h1, h2⟩ := ecells_at hi
      rw [Nat.zero_add, List.getElem?_toArray, List.getElem?_toArray]
      exact ⟨h1, h2⟩
    · cases hi⟩
theorem ents_drop {w : World} {g k n c : Nat} {es : List (Int × Int)} (h : w.heap[g]? = some (.cells (ecells es).toArray 140 (0, 0))) (hn : n = es.length - k) (hc : n ≤ c) : Ents w (.slice (some ⟨g, k * 2, none⟩) n c) (es.drop k) :=
  ⟨g, k * 2, c, _, by rw [List.length_drop, hn], h, by rw [List.length_drop, ← hn]; exact hc, fun i e hi => by
    rw [List.getElem?_drop] at hi
    obtain ⟨h1, h2⟩ := ecells_at hi
    rw [List.getElem?_toArray, List.getElem?_toArray, show k * 2 + i * 2 = (k + i) * 2 by omega]
    exact ⟨h1, h2⟩⟩
theorem set_take (es : List (Int × Int)) (n : Nat) (h : n < es.length) (y : Int × Int) : es.set n y = es.take n ++ y :: es.drop (n + 1) := by
  rw [List.set_eq_take_append_cons_drop, if_pos h]

/-- how much a node has: pairs or children -/
def Cnt (w : World) (r n : Nat) (v : Value) (es : List (Int × Int)) : Prop := match r with
  | 0 => LeafN w v es ∧ n = es.length
  | r + 1 => ∃ kids, BranN w v kids ∧ (∀ kd ∈ kids, SN w r kd.1 kd.2) ∧ es = (ess kids).flatten ∧ n = kids.length
theorem Cnt.sn {w : World} {r n : Nat} {v : Value} {es : List (Int × Int)} (h : Cnt w r n v es) : SN w r v es := by
  cases r with
  | zero => exact h.1
  | succ r =>
    obtain ⟨kids, h1, h2, h3, _⟩ := h
    exact ⟨kids, h1, h2, h3⟩
theorem Cnt.le {w : World} {r n : Nat} {v : Value} {es : List (Int × Int)} (h : Cnt w r n v es) : n ≤ 32 := by
  cases r with
  | zero =>
    obtain ⟨⟨_, _, _, _, _, _, h1⟩, rfl⟩ := h
    exact h1
  | succ r =>
    obtain ⟨kids, ⟨_, _, _, _, _, _, h1⟩, h2, h3, rfl⟩ := h
    exact h1
theorem SN.cnt {w : World} {r : Nat} {v : Value} {es : List (Int × Int)} (h : SN w r v es) : ∃ n, Cnt w r n v es := by
  cases r with
  | zero => exact ⟨_, h, rfl⟩
  | succ r =>
    obtain ⟨kids, h1, h2, h3⟩ := h
    exact ⟨_, kids, h1, h2, h3, rfl⟩
theorem Cnt.stay {w w' : World} {r n : Nat} {v : Value} {es : List (Int × Int)} (hs : Stay w w') (h : Cnt w r n v es) : Cnt w' r n v es := by
  cases r with
  | zero => exact ⟨LeafN.stay hs h.1, h.2⟩
  | succ r =>
    obtain ⟨kids, h1, h2, h3, h4⟩ := h
    exact ⟨kids, h1.stay hs, fun kd hk => SN.stay hs (h2 kd hk), h3, h4⟩
/-- what set leaves: one node, or two -/
def SSet (w : World) (rb : Nat) (fl : Bool) (r n : Nat) (es' : List (Int × Int)) (e : Ending) (w' : World) : Prop :=
  But (· = rb) w w' ∧ Flag w' rb fl ∧ ((∃ v1 n', e = .returned (.tuple #[v1, .nilIface]) ∧ n' ≤ n + 1 ∧ Cnt w' r n' v1 es') ∨
    (n = 32 ∧ ∃ v1 v2 a b, e = .returned (.tuple #[v1, v2]) ∧ es' = a ++ b ∧ SN w' r v1 a ∧ SN w' r v2 b))
end Go.Proofs.Ytefigjdebakccaa
