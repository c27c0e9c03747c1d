/- Rows of pairs: made, and their cells. -/
import Derived.Test.YtpkndcmgialgcaaValN
import Derived.Test.YtpkndcmgialgcaaCopy
import Derived.Laws.MakeOwn
namespace Go.Proofs.Ytpkndcmgialgcaa
open Go.RowKit

theorem info180 : (Try.prog.info? 180).map (fun i => (i.size, i.bytes, i.zero)) = some (2, 16, some (.agg #[.int .i64 0, .int .i64 0])) := by kernel_rfl
theorem size180 : (Try.prog.info? 180).map (·.size) = some 2 := by kernel_rfl
/-- make of a row of pairs -/
theorem make181 (w : World) (c : Nat) (hc : c ≤ 1000000000) : ∃ Z : List Value, Z.length = c * 2 ∧
    (Instr.makeSlice 181 (.int .i64 (c : Int)) (.int .i64 (c : Int))).run Try.prog w = .ok (.slice (some ⟨w.heap.size, 0, none⟩) c c) (w.alloc (.cells Z.toArray 180)) := by
  have h := info180
  cases hq : Try.prog.info? 180 with
  | none => rw [hq] at h; cases h
  | some i =>
    rw [hq] at h
    simp only [Option.map_some, Option.some.injEq, Prod.mk.injEq] at h
    obtain ⟨h1, h2, h3⟩ := h
    have hr := run_make w 181 180 i _ Try.underlying181 hq h3 .i64 .i64 c c (by omega) (Int.le_refl _) (by rw [h2]; omega) (by omega)
    rw [h1, Int.toNat_natCast] at hr
    refine ⟨(madeCells (Value.agg #[.int .i64 0, .int .i64 0]).cells (c * 2)).toList, ?_, by rw [Array.toArray_toList]; exact hr⟩
    rw [Array.length_toList, size_madeCells]

/-- pairs as cells -/
def ecells (es : List (Int × Int)) : List Value := es.flatMap fun e => [.int .i64 e.1, .int .i64 e.2]
theorem ecells_len : ∀ es : List (Int × Int), (ecells es).length = es.length * 2
  | [] => rfl
  | a :: es => by
    have := ecells_len es
    unfold ecells at this ⊢
    rw [List.flatMap_cons, List.length_append, this]
    simp only [List.length_cons, List.length_nil]
    omega
theorem ecells_cons (a : Int × Int) (es : List (Int × Int)) : ecells (a :: es) = .int .i64 a.1 :: .int .i64 a.2 :: ecells es := rfl
theorem ecells_append (es fs : List (Int × Int)) : ecells (es ++ fs) = ecells es ++ ecells fs := by unfold ecells; rw [List.flatMap_append]
theorem ecells_at : ∀ {es : List (Int × Int)} {i : Nat} {e : Int × Int}, es[i]? = some e → (ecells es)[i * 2]? = some (.int .i64 e.1) ∧ (ecells es)[i * 2 + 1]? = some (.int .i64 e.2)
  | [], _, _, h => by simp at h
  | a :: es, 0, e, h => by
    have : a = e := by simpa using h
    subst this
    exact ⟨rfl, rfl⟩
  | a :: es, i + 1, e, h => by
    have ih := ecells_at (es := es) (i := i) (e := e) (by simpa using h)
    rw [ecells_cons, show (i + 1) * 2 = i * 2 + 1 + 1 by omega]
    simpa using ih
theorem ecells_get {es : List (Int × Int)} {j : Nat} {v : Value} (hv : (ecells es)[j]? = some v) : ∃ (i : Nat) (e : Int × Int), es[i]? = some e ∧ ((j = i * 2 ∧ v = .int .i64 e.1) ∨ (j = i * 2 + 1 ∧ v = .int .i64 e.2)) := by
  have hl : j < es.length * 2 := by
    rw [← ecells_len]
    rcases Nat.lt_or_ge j (ecells es).length with h | h
    · exact h
    · rw [List.getElem?_eq_none h] at hv; cases hv
  have hi : j / 2 < es.length := by omega
  refine ⟨j / 2, es[j / 2], List.getElem?_eq_getElem hi, ?_⟩
  obtain ⟨h1, h2⟩ := ecells_at (List.getElem?_eq_getElem hi)
  rcases Nat.mod_two_eq_zero_or_one j with h | h
  · have e : j / 2 * 2 = j := by omega
    rw [e, hv] at h1
    exact .inl ⟨e.symm, Option.some.inj h1⟩
  · have e : j / 2 * 2 + 1 = j := by omega
    rw [e, hv] at h2
    exact .inr ⟨e.symm, Option.some.inj h2⟩
theorem ecells_one {es : List (Int × Int)} : ∀ v ∈ ecells es, v.oneCell' = true := fun v hv => by
  obtain ⟨j, hj⟩ := List.getElem?_of_mem hv
  obtain ⟨i, e, _, h | h⟩ := ecells_get hj
  · rw [h.2]; rfl
  · rw [h.2]; rfl
end Go.Proofs.Ytpkndcmgialgcaa
