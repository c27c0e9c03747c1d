/- Steps of a region in segments, what comes behind behind a veil: whatever looks at a goal's head does not look through it. Conditions of this file: none. -/
import Derived.Test.YtnahipfdnadccaaSegs
namespace Go.Proofs.Ytnahipfdnadccaa

structure Veil (p : Prop) : Prop where
  out : p

section
variable {P : Program} {ops : Array Oper} {w : World}

theorem v_step {Q : Act → Prop} {a : Act} {o : Oper} {rest : List Oper}
    (h : ∀ K : Act → Prop, (∀ a, Veil (wpStill P ops w Q rest a) → K a) → if Region.wanted o (yielded ops a.tmps) then o.still P a w K else K (a.put o.dst undef)) : Veil (wpStill P ops w Q (o :: rest) a) :=
  ⟨wpStill_step fun K hK => h K fun a ha => hK a ha.out⟩
theorem v_nil {Q : Act → Prop} {a : Act} (h : Veil (Q a)) : Veil (wpStill P ops w Q [] a) := ⟨h.out⟩
theorem v_seg {Q : Exit → Act → World → Prop} {K : Act → World → Prop} {a : Act} {i : Nat} {o : Oper} (hi : ops[i]? = some o)
    (h : ∀ K' : Act → World → Prop, (∀ a w, Veil (K a w) → K' a w) → if Region.wanted o (yielded ops a.tmps) then o.wp P a w K' Q else K' (a.put o.dst undef) w) : Veil (wpOp P ops Q i K a w) :=
  ⟨seg_step hi fun K' hK' => h K' fun a w ha => hK' a w ha.out⟩
theorem v_segs {Q : Exit → Act → World → Prop} {p : List Nat} {c : Nat} {rest : List (List Nat × Nat)} {tail : List Nat} {a : Act} (h : Veil (wpStill P ops w (fun a2 => wpOp P ops Q c (wpSegs P ops Q rest tail) a2 w) (opsOf ops p) a)) :
    Veil (wpSegs P ops Q ((p, c) :: rest) tail a w) := ⟨h.out⟩
theorem v_tail {Q : Exit → Act → World → Prop} {tail : List Nat} {a : Act} (h : wpList P ops Q (opsOf ops tail) a w) : Veil (wpSegs P ops Q [] tail a w) := ⟨h⟩
end
end Go.Proofs.Ytnahipfdnadccaa
