/- Append of a slice of whole numbers, whatever it reads. -/
import Derived.Test.YtefigjdebakccaaFil
import Derived.Laws.AppendOwnNone
namespace Go.Proofs.Ytefigjdebakccaa
open Go.RowKit

/-- append of a slice of whole numbers to a row of one's own -/
theorem app_any {w : World} {o : Oper} {a : Act} {K : Act → World → Prop} {Q : Exit → Act → World → Prop} (s x : Operand) (ho : o.op = .call { callee := .builtin .append, args := #[s, x], argTypes := #[22, 22] })
    (B n : Nat) (v : Value) (cs : List Value) (hs : a.eval s = v) (hown : w.ownsRow B 3 1 v n cs) (hn : n ≤ 1000000) (ys : List Int) (hl : ys.length ≤ 1000000) (ad : Option Addr) (cap : Nat) (hx : a.eval x = .slice ad ys.length cap) (hnil : ad = none → cap = 0)
    (hc : ∀ (i : Nat) (y : Int), ys[i]? = some y → ∃ g q, ad = some ⟨g, q, none⟩ ∧ w.cell? ⟨g, q + i, none⟩ = some (.int .i64 y)) (hB : B ≤ w.heap.size)
    (h : ∀ v' w', w'.ownsRow B 3 1 v' (n + ys.length) (cs ++ ys.map (Value.int .i64)) → w.grownBy w' v.ownBlock → (v'.ownBlock = v.ownBlock ∨ v'.ownBlock = some w.heap.size) → K (a.put o.dst v') w') : o.wp Try.prog a w K Q := by
  obtain ⟨i3, hi, hz0, hz1, hz2⟩ := info_parts info3
  cases ad with
  | none =>
    have hy : ys = [] := by
      cases ys with
      | nil => rfl
      | cons y ys =>
        obtain ⟨g, q, h1, -⟩ := hc 0 y rfl
        cases h1
    subst hy
    have hx' : a.eval x = .slice none 0 0 := by rw [hx, hnil rfl]; rfl
    have hrun := run_append_owned_none (P := Try.prog) (w := w) B 22 o.type 3 i3 1 Try.underlying22 hi v n cs hown
    unfold Oper.wp
    simp [execOp, ho, resolve, invoke, builtin, hs, hx', hrun, Result.andThen]
    exact h v w (by simpa using hown) ⟨rfl, rfl, rfl, Nat.le_refl _, fun _ _ _ => rfl⟩ (.inl rfl)
  | some ad =>
    obtain ⟨v', w', hr, h2, h3, h4, h5⟩ := run_append_own_at (P := Try.prog) w B 22 o.type 3 i3 (.int .i64 0) 1 8 Try.underlying22 hi hz0 hz1 hz2 rfl (by decide) v n cs hown ad ys.length cap (ys.map (Value.int .i64)) (by simp) (fun j c hj => by
      rw [List.getElem?_map] at hj
      cases hq : ys[j]? with
      | none => rw [hq] at hj; cases hj
      | some y =>
        rw [hq] at hj
        simp only [Option.map_some, Option.some.injEq] at hj
        subst hj
        obtain ⟨g, q, h3, h4⟩ := hc j y hq
        simp only [Option.some.injEq] at h3
        subst h3
        rw [Addr.add_lit]
        exact h4) (fun u hu => by
      obtain ⟨y, -, rfl⟩ := List.mem_map.1 hu
      rfl) (by unfold maxLen; omega) (by omega) hB
    unfold Oper.wp execOp
    simp only [ho, resolve, invoke, builtin, Sem.run_bind, Sem.run_pure, Result.andThen_ok, List.map_toArray, List.map_cons, List.map_nil, hs, hx, hr]
    exact h v' w' h2 h3 h5
end Go.Proofs.Ytefigjdebakccaa
