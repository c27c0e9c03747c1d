/- Rows of children: made, and their cells; what set leaves at a branch. -/
import Derived.Test.YtefigjdebakccaaLSet
namespace Go.Proofs.Ytefigjdebakccaa
open Go.RowKit

theorem info163 : (Try.prog.info? 163).map (fun i => (i.size, i.bytes, i.zero)) = some (2, 24, some (.agg #[.int .i64 0, .nilIface])) := by kernel_rfl
theorem size163 : (Try.prog.info? 163).map (·.size) = some 2 := by kernel_rfl
/-- make of a row of pairs -/
theorem make161 (w : World) (c : Nat) (hc : c ≤ 1000000000) : ∃ Z : List Value, Z.length = c * 2 ∧
    (Instr.makeSlice 161 (.int .i64 (c : Int)) (.int .i64 (c : Int))).run Try.prog w = .ok (.slice (some ⟨w.heap.size, 0, none⟩) c c) (w.alloc (.cells Z.toArray 163)) := by
  have h := info163
  cases hq : Try.prog.info? 163 with
  | none => rw [hq] at h; cases h
  | some i =>
    rw [hq] at h
    simp only [Option.map_some, Option.some.injEq, Prod.mk.injEq] at h
    obtain ⟨h1, h2, h3⟩ := h
    have hr := run_make w 161 163 i _ Try.underlying161 hq h3 .i64 .i64 c c (by omega) (Int.le_refl _) (by rw [h2]; omega) (by omega)
    rw [h1, Int.toNat_natCast] at hr
    refine ⟨(madeCells (Value.agg #[.int .i64 0, .nilIface]).cells (c * 2)).toList, ?_, by rw [Array.toArray_toList]; exact hr⟩
    rw [Array.length_toList, size_madeCells]
/-- children as cells -/
def rcells (es : List (Int × Value)) : List Value := es.flatMap fun e => [.int .i64 e.1, e.2]
theorem rcells_len : ∀ es : List (Int × Value), (rcells es).length = es.length * 2
  | [] => rfl
  | a :: es => by
    have := rcells_len es
    unfold rcells at this ⊢
    rw [List.flatMap_cons, List.length_append, this]
    simp only [List.length_cons, List.length_nil]
    omega
theorem rcells_cons (a : Int × Value) (es : List (Int × Value)) : rcells (a :: es) = .int .i64 a.1 :: a.2 :: rcells es := rfl
theorem rcells_append (es fs : List (Int × Value)) : rcells (es ++ fs) = rcells es ++ rcells fs := by unfold rcells; rw [List.flatMap_append]
theorem rcells_at : ∀ {es : List (Int × Value)} {i : Nat} {e : Int × Value}, es[i]? = some e → (rcells es)[i * 2]? = some (.int .i64 e.1) ∧ (rcells es)[i * 2 + 1]? = some (e.2)
  | [], _, _, h => by simp at h
  | a :: es, 0, e, h => by
    have : a = e := by simpa using h
    subst this
    exact ⟨rfl, rfl⟩
  | a :: es, i + 1, e, h => by
    have ih := rcells_at (es := es) (i := i) (e := e) (by simpa using h)
    rw [rcells_cons, show (i + 1) * 2 = i * 2 + 1 + 1 by omega]
    simpa using ih
theorem rcells_get {es : List (Int × Value)} {j : Nat} {v : Value} (hv : (rcells es)[j]? = some v) : ∃ (i : Nat) (e : Int × Value), es[i]? = some e ∧ ((j = i * 2 ∧ v = .int .i64 e.1) ∨ (j = i * 2 + 1 ∧ v = e.2)) := by
  have hl : j < es.length * 2 := by
    rw [← rcells_len]
    rcases Nat.lt_or_ge j (rcells es).length with h | h
    · exact h
    · rw [List.getElem?_eq_none h] at hv; cases hv
  have hi : j / 2 < es.length := by omega
  refine ⟨j / 2, es[j / 2], List.getElem?_eq_getElem hi, ?_⟩
  obtain ⟨h1, h2⟩ := rcells_at (List.getElem?_eq_getElem hi)
  rcases Nat.mod_two_eq_zero_or_one j with h | h
  · have e : j / 2 * 2 = j := by omega
    rw [e, hv] at h1
    exact .inl ⟨e.symm, Option.some.inj h1⟩
  · have e : j / 2 * 2 + 1 = j := by omega
    rw [e, hv] at h2
    exact .inr ⟨e.symm, Option.some.inj h2⟩
theorem rcells_one {es : List (Int × Value)} (h : ∀ e ∈ es, e.2.oneCell' = true) : ∀ v ∈ rcells es, v.oneCell' = true := fun v hv => by
  obtain ⟨j, hj⟩ := List.getElem?_of_mem hv
  obtain ⟨i, e, he, h1 | h1⟩ := rcells_get hj
  · rw [h1.2]; rfl
  · rw [h1.2]; exact h e (List.mem_of_getElem? he)
theorem rcells_set : ∀ (es : List (Int × Value)) (i : Nat) (e : Int × Value), ((rcells es).toArray.setIfInBounds (i * 2) (.int .i64 e.1)).setIfInBounds (i * 2 + 1) e.2 = (rcells (es.set i e)).toArray := by
  have key : ∀ (es : List (Int × Value)) (i : Nat) (e : Int × Value), ((rcells es).set (i * 2) (.int .i64 e.1)).set (i * 2 + 1) e.2 = rcells (es.set i e) := by
    intro es
    induction es with
    | nil => intro i e; rfl
    | cons a es ih =>
      intro i e
      cases i with
      | zero => rfl
      | succ i =>
        rw [List.set_cons_succ, rcells_cons, rcells_cons, ← ih i e, show (i + 1) * 2 = i * 2 + 1 + 1 by omega]
        rfl
  intro es i e
  apply Array.ext'
  rw [← key]
  simp
theorem sl161 : Try.prog.underlying 161 = some (.slice (Try.prog.elem 161)) := by kernel_rfl
theorem elem161 (w : World) : (sizeOf (Try.prog.elem 161)).run Try.prog w = .ok 2 w := by kernel_rfl
theorem slice161_l (g q N c l : Nat) (hl : l ≤ N) (_hc : N ≤ c) : ∃ d : Addr, (l < c → d = ⟨g, q + l * 2, none⟩) ∧
    ∀ w : World, (Instr.slice 161 (.slice (some ⟨g, q, none⟩) N c) (some (.int .i64 (l : Int))) none none).run Try.prog w = .ok (.slice (some d) (N - l) (c - l)) w := by
  refine ⟨if c = l then ⟨g, q, none⟩ else ⟨g, q + l * 2, none⟩, fun h => by rw [if_neg (by omega)], fun w => ?_⟩
  rw [run_slice_l w 161 _ N c sl161 .i64 l (by omega) (by omega), elem161]
  simp only [Result.andThen_ok, sliced, Int.toNat_natCast, Option.map_some, addr_add]
  split <;> rfl
theorem rcells_take (es : List (Int × Value)) (i : Nat) : rcells es = rcells (es.take i) ++ rcells (es.drop i) := by rw [← rcells_append, List.take_append_drop]
theorem src_rows {w : World} {nb q : Nat} {es : List (Int × Value)} (hk : ∀ (i : Nat) (x : Int × Value), es[i]? = some x → w.cell? ⟨nb, q + i * 2, none⟩ = some (.int .i64 x.1) ∧ w.cell? ⟨nb, q + i * 2 + 1, none⟩ = some x.2) :
    ∀ j v, (rcells es)[j]? = some v → w.cell? ((⟨nb, q, none⟩ : Addr).add j) = some v := fun j v hv => by
  rw [addr_add]
  obtain ⟨i, e, he, ⟨rfl, rfl⟩ | ⟨rfl, rfl⟩⟩ := rcells_get hv
  · exact (hk i e he).1
  · exact (hk i e he).2
theorem rows_all {w : World} {g : Nat} {es : List (Int × Value)} (h : w.heap[g]? = some (.cells (rcells es).toArray 163 (0, 0))) : Rows2 w (.slice (some ⟨g, 0, none⟩) es.length es.length) es :=
  ⟨g, 0, es.length, _, rfl, h, Nat.le_refl _, fun i e hi => by
    obtain ⟨h1, h2⟩ := rcells_at hi
    rw [Nat.zero_add, List.getElem?_toArray, List.getElem?_toArray]
    exact ⟨h1, h2⟩⟩
theorem rows_take {w : World} {g k : Nat} {es : List (Int × Value)} (h : w.heap[g]? = some (.cells (rcells es).toArray 163 (0, 0))) (hk : k ≤ es.length) : Rows2 w (.slice (some ⟨g, 0, none⟩) k k) (es.take k) :=
  ⟨g, 0, k, _, by rw [List.length_take, Nat.min_eq_left hk], h, by rw [List.length_take]; omega, fun i e hi => by
    rw [List.getElem?_take] at hi
    split at hi
    · obtain ⟨h1, h2⟩ := rcells_at hi
      rw [Nat.zero_add, List.getElem?_toArray, List.getElem?_toArray]
      exact ⟨h1, h2⟩
    · cases hi⟩
theorem rows_drop {w : World} {g k n c : Nat} {es : List (Int × Value)} (h : w.heap[g]? = some (.cells (rcells es).toArray 163 (0, 0))) (hn : n = es.length - k) (hc : n ≤ c) : Rows2 w (.slice (some ⟨g, k * 2, none⟩) n c) (es.drop k) :=
  ⟨g, k * 2, c, _, by rw [List.length_drop, hn], h, by rw [List.length_drop, ← hn]; exact hc, fun i e hi => by
    rw [List.getElem?_drop] at hi
    obtain ⟨h1, h2⟩ := rcells_at hi
    rw [List.getElem?_toArray, List.getElem?_toArray, show k * 2 + i * 2 = (k + i) * 2 by omega]
    exact ⟨h1, h2⟩⟩

/-- child i replaced by others -/
def putK (kids : List Kid) (i : Nat) (nk : List Kid) : List Kid := kids.take i ++ nk ++ kids.drop (i + 1)
theorem ess_put (kids : List Kid) (i : Nat) (nk : List Kid) : ess (putK kids i nk) = put (ess kids) i (ess nk) := by
  unfold ess putK put
  rw [List.map_append, List.map_append, List.map_take, List.map_drop]
theorem krow_put (kids : List Kid) (i : Nat) (nk : List Kid) : krow (putK kids i nk) = (krow kids).take i ++ krow nk ++ (krow kids).drop (i + 1) := by
  unfold krow putK
  rw [List.map_append, List.map_append, List.map_take, List.map_drop]
theorem len_putK {kids : List Kid} {i : Nat} (hi : i < kids.length) (nk : List Kid) : (putK kids i nk).length = kids.length - 1 + nk.length := by
  unfold putK
  rw [List.length_append, List.length_append, List.length_take, List.length_drop]
  omega
theorem mem_putK {kids nk : List Kid} {i : Nat} {kd : Kid} (h : kd ∈ putK kids i nk) : kd ∈ kids ∨ kd ∈ nk := by
  unfold putK at h
  rcases List.mem_append.1 h with h | h
  · rcases List.mem_append.1 h with h | h
    · exact .inl (List.mem_of_mem_take h)
    · exact .inr h
  · exact .inl (List.mem_of_mem_drop h)
theorem bset_one (w W : World) (rb b ob n r N : Nat) (fl : Bool) (kids : List Kid) (es' : List (Int × Int)) (hb : But (· = rb) w W) (hf : Flag W rb fl) (ho : W.heap[ob]? = some (.cells #[.slice (some ⟨b, 0, none⟩) N N] 165 (0, 0)))
    (hr : W.heap[b]? = some (.cells (rcells (krow kids)).toArray 163 (0, 0))) (hk : ∀ kd ∈ kids, SN W r kd.1 kd.2) (he : es' = (ess kids).flatten) (h0 : kids ≠ []) (hN : N = kids.length) (hl : N ≤ 32) (hn : N ≤ n + 1) :
    SSet w rb fl (r + 1) n es' (.returned (.tuple #[.iface 147 (.pointer (some ⟨ob, 0, none⟩)), .nilIface])) W := by
  subst hN
  refine ⟨hb, hf, .inl ⟨_, kids.length, rfl, hn, kids, ⟨ob, _, rfl, ho, ?_, h0, hl⟩, hk, he, rfl⟩⟩
  have := rows_all hr
  rw [krow_len] at this
  exact this
theorem bset_two (w W : World) (rb b n r H : Nat) (fl : Bool) (kids : List Kid) (es' : List (Int × Int)) (hH : W.heap.size = H) (hb : But (· = rb) w W) (hf : Flag W rb fl)
    (hr : W.heap[b]? = some (.cells (rcells (krow kids)).toArray 163 (0, 0))) (hk : ∀ kd ∈ kids, SN W r kd.1 kd.2) (he : es' = (ess kids).flatten) (hN : kids.length = 33) (hn : n = 32) :
    SSet w rb fl (r + 1) n es' (.returned (.tuple #[.iface 147 (.pointer (some ⟨H, 0, none⟩)), .iface 147 (.pointer (some ⟨H + 1, 0, none⟩))]))
      ((W.alloc (.cells #[.slice (some ⟨b, 0, none⟩) 16 16] 165)).alloc (.cells #[.slice (some ⟨b, 32, none⟩) 17 17] 165)) := by
  subst hH
  have hst : Stay W ((W.alloc (.cells #[.slice (some ⟨b, 0, none⟩) 16 16] 165)).alloc (.cells #[.slice (some ⟨b, 32, none⟩) 17 17] 165)) := fun _ _ _ h _ => at_alloc (at_alloc h)
  refine ⟨(hb.alloc _).alloc _, at_alloc (at_alloc hf), .inr ⟨hn, _, _, (ess (kids.take 16)).flatten, (ess (kids.drop 16)).flatten, rfl, ?_, ⟨kids.take 16, ⟨_, _, rfl, at_alloc (heap_alloc_last W _), ?_, ?_, ?_⟩, fun kd hkd => (hk kd (List.mem_of_mem_take hkd)).stay hst, rfl⟩,
    ⟨kids.drop 16, ⟨W.heap.size + 1, .slice (some ⟨b, 32, none⟩) 17 17, rfl, ?_, ?_, ?_, ?_⟩, fun kd hkd => (hk kd (List.mem_of_mem_drop hkd)).stay hst, rfl⟩⟩⟩
  · rw [he, ← List.flatten_append]
    unfold ess
    rw [← List.map_append, List.take_append_drop]
  · have h := rows_take (k := 16) (at_alloc (o := .cells #[.slice (some ⟨b, 32, none⟩) 17 17] 165) (at_alloc (o := .cells #[.slice (some ⟨b, 0, none⟩) 16 16] 165) hr)) (by rw [krow_len]; omega)
    unfold krow at h ⊢
    rw [List.map_take]
    exact h
  · intro e; have := congrArg List.length e; rw [List.length_take, List.length_nil] at this; omega
  · rw [List.length_take]; omega
  · have h := heap_alloc_last (W.alloc (.cells #[.slice (some ⟨b, 0, none⟩) 16 16] 165)) (.cells #[.slice (some ⟨b, 32, none⟩) 17 17] 165)
    rw [size_alloc] at h
    exact h
  · have h := rows_drop (k := 16) (n := 17) (c := 17) (at_alloc (o := .cells #[.slice (some ⟨b, 32, none⟩) 17 17] 165) (at_alloc (o := .cells #[.slice (some ⟨b, 0, none⟩) 16 16] 165) hr)) (by rw [krow_len]; omega) (by omega)
    unfold krow at h ⊢
    rw [List.map_drop]
    exact h
  · intro e; have := congrArg List.length e; rw [List.length_drop, List.length_nil] at this; omega
  · rw [List.length_drop]; omega
end Go.Proofs.Ytefigjdebakccaa
