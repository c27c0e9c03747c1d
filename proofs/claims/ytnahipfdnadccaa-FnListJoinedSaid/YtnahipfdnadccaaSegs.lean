/- A law for the walks: a region that draws its order and holds several calls, each forced behind all that stands ahead of it: met in ONE order: what stands ahead of a call leaves the world at hand; then the call; and so on; then a tail whose order is forced. Whatever program. -/
import Derived.Test.YtnahipfdnadccaaFix
namespace Go.Proofs.Ytnahipfdnadccaa

section
variable {P : Program} {ops : Array Oper} {md : Region.Mode} {w : World}

theorem dependsOn_succ (i : Nat) : ∀ (f t : Nat), dependsOn md ops f t i = true → dependsOn md ops (f + 1) t i = true
  | 0, _, h => by simp [dependsOn] at h
  | f + 1, t, h => by
    unfold dependsOn at h ⊢
    cases ho : ops[t]? with
    | none => rw [ho] at h; cases h
    | some o =>
      rw [ho] at h
      simp only at h ⊢
      obtain ⟨e, he, h2⟩ := Array.any_eq_true'.1 h
      refine Array.any_eq_true'.2 ⟨e, he, ?_⟩
      simp only [Bool.and_eq_true, Bool.or_eq_true, beq_iff_eq] at h2 ⊢
      exact ⟨h2.1, h2.2.imp id (dependsOn_succ i f e.on)⟩
theorem dependsOn_mono (i t : Nat) {f g : Nat} (hfg : f ≤ g) (h : dependsOn md ops f t i = true) : dependsOn md ops g t i = true := by
  induction g with
  | zero => have : f = 0 := by omega
            subst this; exact h
  | succ g ih =>
    rcases Nat.lt_or_ge g f with h1 | h1
    · have : f = g + 1 := by omega
      subst this; exact h
    · exact dependsOn_succ i g t (ih h1)

/-- what an operation waits for, as a number's bits -/
def maskOf (md : Region.Mode) (acc : List Nat) (o : Oper) : Nat := o.after.toList.foldl (fun m e => if Region.binds md e then (m ||| 2 ^ e.on) ||| acc.getD e.on 0 else m) 0
def masksL (md : Region.Mode) : List Oper → List Nat → List Nat
  | [], acc => acc
  | o :: l, acc => masksL md l (acc ++ [maskOf md acc o])

theorem maskOf_spec {acc : List Nat} {o : Oper} {i : Nat} (h : (maskOf md acc o).testBit i = true) : ∃ e ∈ o.after, Region.binds md e = true ∧ (e.on = i ∨ (acc.getD e.on 0).testBit i = true) := by
  have gen : ∀ (l : List Edge) (m : Nat), (l.foldl (fun m e => if Region.binds md e then (m ||| 2 ^ e.on) ||| acc.getD e.on 0 else m) m).testBit i = true → m.testBit i = true ∨ ∃ e ∈ l, Region.binds md e = true ∧ (e.on = i ∨ (acc.getD e.on 0).testBit i = true) := by
    intro l
    induction l with
    | nil => intro m h; exact .inl h
    | cons e l ih =>
      intro m h
      rw [List.foldl_cons] at h
      rcases ih _ h with h1 | ⟨e', he', h2⟩
      · by_cases hb : Region.binds md e = true
        · rw [if_pos hb, Nat.testBit_or, Nat.testBit_or, Bool.or_eq_true, Bool.or_eq_true, Nat.testBit_two_pow] at h1
          rcases h1 with (h1 | h1) | h1
          · exact .inl h1
          · exact .inr ⟨e, .head _, hb, .inl (by simpa using h1)⟩
          · exact .inr ⟨e, .head _, hb, .inr h1⟩
        · rw [if_neg hb] at h1
          exact .inl h1
      · exact .inr ⟨e', .tail _ he', h2⟩
  rcases gen o.after.toList 0 h with h1 | ⟨e, he, h2⟩
  · simp at h1
  · exact ⟨e, by simpa using he, h2⟩

theorem masksL_sound : ∀ (l : List Oper) (acc : List Nat), (∀ j, l[j]? = ops[acc.length + j]?) → (∀ t i, (acc.getD t 0).testBit i = true → dependsOn md ops (t + 1) t i = true) →
    ∀ t i, ((masksL md l acc).getD t 0).testBit i = true → dependsOn md ops (t + 1) t i = true
  | [], acc, _, ha => ha
  | o :: l, acc, hl, ha => by
    have h0 : ops[acc.length]? = some o := by simpa using (hl 0).symm
    refine masksL_sound l (acc ++ [maskOf md acc o]) (fun j => by have := hl (j + 1); simpa [Nat.add_assoc, Nat.add_comm 1 j] using this) (fun t i ht => ?_)
    rcases Nat.lt_trichotomy t acc.length with h | h | h
    · refine ha t i ?_
      rw [List.getD_eq_getElem?_getD, List.getElem?_append_left h] at ht
      rw [List.getD_eq_getElem?_getD]; exact ht
    · subst h
      rw [List.getD_eq_getElem?_getD, List.getElem?_append_right (Nat.le_refl _)] at ht
      simp only [Nat.sub_self, List.getElem?_cons_zero, Option.getD_some] at ht
      obtain ⟨e, he, hb, h2⟩ := maskOf_spec ht
      unfold dependsOn
      rw [h0]
      refine Array.any_eq_true'.2 ⟨e, he, ?_⟩
      simp only [Bool.and_eq_true, Bool.or_eq_true, beq_iff_eq]
      refine ⟨hb, h2.imp id fun h3 => ?_⟩
      have hlt : e.on < acc.length := by
        rcases Nat.lt_or_ge e.on acc.length with h | h
        · exact h
        · rw [List.getD_eq_getElem?_getD, List.getElem?_eq_none h] at h3; simp at h3
      exact dependsOn_mono i e.on (by omega) (ha e.on i h3)
    · rw [List.getD_eq_getElem?_getD, List.getElem?_eq_none (by simp; omega)] at ht
      simp at ht

theorem masks_dep {t i : Nat} (h : ((masksL md ops.toList []).getD t 0).testBit i = true) (ht : t < ops.size) : dependsOn md ops ops.size t i = true :=
  dependsOn_mono i t (by omega) (masksL_sound (ops := ops) ops.toList [] (fun j => by simp) (fun t i h => by simp at h) t i h)

def bitsOf : List Nat → Nat
  | [] => 0
  | i :: r => 2 ^ i ||| bitsOf r
theorem bitsOf_spec {m : Nat} : ∀ {p : List Nat}, m &&& bitsOf p = bitsOf p → ∀ i ∈ p, m.testBit i = true := by
  intro p h i hi
  have hb : (bitsOf p).testBit i = true := by
    clear h
    induction p with
    | nil => cases hi
    | cons j r ih =>
      simp only [bitsOf, Nat.testBit_or, Nat.testBit_two_pow, Bool.or_eq_true, decide_eq_true_eq]
      rcases List.mem_cons.1 hi with h | h
      · exact .inl h.symm
      · exact .inr (ih h)
  rw [← h, Nat.testBit_and, Bool.and_eq_true] at hb
  exact hb.1

def wpSegs (P : Program) (ops : Array Oper) (Q : Exit → Act → World → Prop) : List (List Nat × Nat) → List Nat → Act → World → Prop
  | [], tail, a, w => wpList P ops Q (opsOf ops tail) a w
  | (p, c) :: rest, tail, a, w => wpStill P ops w (fun a2 => wpOp P ops Q c (wpSegs P ops Q rest tail) a2 w) (opsOf ops p) a

def segsB (md : Region.Mode) (ops : Array Oper) : List (List Nat × Nat) → List Nat → List Nat → Array Bool → Bool
  | [], tail, _, listed => forcedB md ops tail listed
  | (p, c) :: rest, tail, done, listed =>
    orderB md ops p listed && (done.all fun t => listed.getD t true) &&
    ((List.range ops.size).all fun t => done.contains t || p.contains t || decide ((masksL md ops.toList []).getD t 0 &&& bitsOf p = bitsOf p)) &&
    decide (Region.ready md ops (setAll listed p) = [c]) && !p.contains c && segsB md ops rest tail (done ++ p ++ [c]) ((setAll listed p).setIfInBounds c true)

def segsFuel : List (List Nat × Nat) → List Nat → Nat
  | [], tail => tail.length
  | (p, _) :: rest, tail => p.length + (segsFuel rest tail + 1)

theorem any_of_segs {Q : Exit → Act → World → Prop} (hsel : Region.noSelect ops = true) : ∀ (segs : List (List Nat × Nat)) (tail done : List Nat) (listed : Array Bool) (a : Act) (w : World), FixInv md ops listed → segsB md ops segs tail done listed = true →
    wpSegs P ops Q segs tail a w → wpAny P md ops Q (segsFuel segs tail) listed a w
  | [], tail, done, listed, a, w, inv, hB, h => any_of_forced tail listed a w hB h
  | (p, c) :: rest, tail, done, listed, a, w, inv, hB, h => by
    simp only [segsB, Bool.and_eq_true, decide_eq_true_eq] at hB
    obtain ⟨⟨⟨⟨⟨h1, h2⟩, h3⟩, h4⟩, h5⟩, h6⟩ := hB
    have inv2 := inv_all p listed inv h1
    have hc : c ∈ Region.ready md ops (setAll listed p) := by rw [h4]; exact .head _
    refine wpAny_of_K (hd := p) (L := fun listed' a' => listed' = setAll listed p ∧ wpOp P ops Q c (wpSegs P ops Q rest tail) a' w) (fun listed' a' hL => ?_) p.length listed a ?_
    · obtain ⟨rfl, hL⟩ := hL
      refine ⟨fun h0 => (by rw [h4] at h0; cases h0), fun i hi => ?_⟩
      rw [h4] at hi
      have hic : i = c := by simpa using hi
      subst hic
      exact wpOp_mono (fun a' w' h' => any_of_segs hsel rest tail _ _ a' w' (inv2.set hc) h6 h') hL
    · refine K_list (done := done) hsel (fun t ot ht => ?_) (fun j hj => ?_) p listed a (fun i hi => hi) rfl inv (fun t ht => List.all_eq_true.1 h2 t ht) h1 h
      · have := List.all_eq_true.1 h3 t (List.mem_range.2 (Array.getElem?_eq_some_iff.1 ht).1)
        simp only [Bool.or_eq_true, List.contains_iff_mem, decide_eq_true_eq] at this
        rcases this with (h | h) | h
        · exact .inl h
        · exact .inr (.inl h)
        · exact .inr (.inr fun i hi => masks_dep (bitsOf_spec h i hi) (Array.getElem?_eq_some_iff.1 ht).1)
      · rw [h4] at hj
        have hjc : j = c := by simpa using hj
        subst hjc
        simpa using h5

theorem region_segs {id : Nat} {Q : Exit → Act → World → Prop} {a : Act} {l : List Oper} (segs : List (List Nat × Nat)) (tail : List Nat) (hm : P.follows .mixedOrders = true)
    (hB : (Region.noSelect l.toArray && segsB .any l.toArray segs tail [] (Array.replicate l.toArray.size false) && decide (segsFuel segs tail = l.toArray.size)) = true)
    (h : wpSegs P l.toArray Q segs tail a w.drew) : (Code.region id l.toArray true).wp P Q a w := by
  simp only [Bool.and_eq_true, decide_eq_true_eq] at hB
  obtain ⟨⟨hsel, hB⟩, hf⟩ := hB
  have inv0 : FixInv .any l.toArray (Array.replicate l.toArray.size false) := ⟨by simp, fun j oj _ hl => (by rw [getD_replicate_false] at hl; cases hl)⟩
  refine wp_region_any hm ?_
  show wpAny P .any l.toArray Q l.toArray.size (Array.replicate l.toArray.size false) a w.drew
  have key := any_of_segs (md := .any) hsel segs tail [] _ a _ inv0 hB h
  rw [hf] at key
  exact key

theorem seg_call {Q : Exit → Act → World → Prop} {K : Act → World → Prop} {a : Act} {i : Nat} {o : Oper} {f : FuncId} {args : Array Value} (hi : ops[i]? = some o) (hw : Region.wanted o (yielded ops a.tmps) = true)
    (hx : (execOp a.eval o).run P w = .ok (.enter f args) w) (hc : Calls P f args w fun e w'' => ∃ v, e = .returned v ∧ K (a.put o.dst v) w'') : wpOp P ops Q i K a w := by
  unfold wpOp
  simp only [hi, hw, if_true]
  left
  unfold Oper.wp
  rw [hx, Oper.upon_enter]
  refine hc.mono ?_
  rintro e w'' ⟨v, rfl, h⟩
  exact h
/-- one operation, what comes behind it veiled -/
theorem seg_step {Q : Exit → Act → World → Prop} {K : Act → World → Prop} {a : Act} {i : Nat} {o : Oper} (hi : ops[i]? = some o)
    (h : ∀ K' : Act → World → Prop, (∀ a w, K a w → K' a w) → if Region.wanted o (yielded ops a.tmps) then o.wp P a w K' Q else K' (a.put o.dst undef) w) : wpOp P ops Q i K a w := by
  have h1 := h K (fun _ _ h => h)
  unfold wpOp
  simp only [hi]
  by_cases hw : Region.wanted o (yielded ops a.tmps) = true
  · rw [if_pos hw] at h1 ⊢
    exact .inl h1
  · rw [if_neg hw] at h1 ⊢
    exact h1
theorem seg_skip {Q : Exit → Act → World → Prop} {K : Act → World → Prop} {a : Act} {i : Nat} {o : Oper} (hi : ops[i]? = some o) (hw : Region.wanted o (yielded ops a.tmps) = false) (h : K (a.put o.dst undef) w) : wpOp P ops Q i K a w := by
  unfold wpOp
  simp only [hi, hw]
  exact h

end
end Go.Proofs.Ytnahipfdnadccaa
