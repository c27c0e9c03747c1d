/- A law for the walks: a region that draws its order, in segments, where what is read may be read at any time: it reads the same in every world that the region comes to (R). Whatever program. Conditions of this file: none. -/
import Derived.Test.YtnahipfdnadccaaVeil
namespace Go.Proofs.Ytnahipfdnadccaa

section
variable {P : Program} {ops : Array Oper} {md : Region.Mode} {Q : Exit → Act → World → Prop} {R : World → Prop}

/-- any order, and behind each operation the world is one of R -/
def wpAnyR (P : Program) (md : Region.Mode) (ops : Array Oper) (Q : Exit → Act → World → Prop) (R : World → Prop) : Nat → Array Bool → Act → World → Prop
  | 0, listed, a, w => Region.ready md ops listed = [] ∧ Q .normal a w
  | f + 1, listed, a, w => (Region.ready md ops listed = [] → Q .normal a w) ∧ ∀ i ∈ Region.ready md ops listed, wpOp P ops Q i (fun a' w' => R w' ∧ wpAnyR P md ops Q R f (listed.setIfInBounds i true) a' w') a w

theorem any_of_R : ∀ (f : Nat) (listed : Array Bool) (a : Act) (w : World), wpAnyR P md ops Q R f listed a w → wpAny P md ops Q f listed a w
  | 0, _, _, _, h => h
  | f + 1, _, _, _, h => ⟨h.1, fun i hi => wpOp_mono (fun a' w' h' => any_of_R f _ a' w' h'.2) (h.2 i hi)⟩

/-- it yields v in every world of R -/
def YR (P : Program) (ops : Array Oper) (R : World → Prop) (o : Oper) (v : Value) (a : Act) : Prop :=
  (Region.wanted o (yielded ops a.tmps) = true ∧ ∀ w, R w → (execOp a.eval o).run P w = .ok (.value v) w) ∨ (Region.wanted o (yielded ops a.tmps) = false ∧ v = undef)

theorem YR.of_same {o : Oper} {v : Value} {a a' : Act} (hy : YR P ops R o v a) (he : execOp a'.eval o = execOp a.eval o) (hw : Region.wanted o (yielded ops a'.tmps) = Region.wanted o (yielded ops a.tmps)) : YR P ops R o v a' := by
  unfold YR at *
  rw [he, hw]
  exact hy
theorem YR.wpOp {i : Nat} {o : Oper} {v : Value} {a : Act} {w : World} (hi : ops[i]? = some o) (hy : YR P ops R o v a) (hR : R w) {K : Act → World → Prop} (h : K (a.put o.dst v) w) : wpOp P ops Q i K a w := by
  unfold Go.wpOp
  simp only [hi]
  rcases hy with ⟨hw, hv⟩ | ⟨hw, rfl⟩
  · rw [if_pos hw]
    left
    unfold Oper.wp
    rw [hv w hR]
    exact h
  · simp only [hw, Bool.false_eq_true, if_false]
    exact h

/-- what an operation's own place says nothing of stays true behind it -/
theorem wpOp_keep {j : Nat} {oj : Oper} {E : Act → Prop} (hj : ops[j]? = some oj) (hput : ∀ a u, E a → E (a.put oj.dst u)) (hdef : ∀ (a : Act) d, E a → E { a with defers := d :: a.defers }) {K : Act → World → Prop} {a : Act} {w : World}
    (hE : E a) (h : wpOp P ops Q j K a w) : wpOp P ops Q j (fun a' w' => E a' ∧ K a' w') a w := by
  unfold wpOp at *
  simp only [hj] at *
  by_cases hw : Region.wanted oj (yielded ops a.tmps) = true
  · simp only [hw, if_true] at h ⊢
    refine h.imp (fun h => ?_) id
    unfold Oper.wp at *
    generalize (execOp a.eval oj).run P w = r at *
    cases r with
    | halt x w' => cases x <;> simp only [Oper.upon] at h ⊢ <;> exact h
    | ok n w' =>
      cases n <;> simp only [Oper.upon] at h ⊢
      case value u => exact ⟨hput _ _ hE, h⟩
      case skip => exact ⟨hput _ _ hE, h⟩
      case defer d => exact ⟨hput _ _ (hdef _ _ hE), h⟩
      case enter f args =>
        refine Calls.mono h fun e w'' he => ?_
        cases e with
        | returned u => exact ⟨hput _ _ hE, he⟩
        | panicked c => exact he
        | outgrown => exact he
      case row row args => exact Rows.mono h fun u w'' he => ⟨hput _ _ hE, he⟩
  · simp only [hw] at h ⊢
    exact ⟨hput _ _ hE, h⟩

theorem apart_fake {oi oj : Oper} {v : Value} (h : oi.apart ops oj = true) : Oper.apart ops { oi with op := .move (.const v), guard := none } oj = true := by
  obtain ⟨h1, h2, _⟩ := Oper.apart_spec h
  unfold Oper.apart
  rw [Bool.and_eq_true]
  constructor
  · cases hd : oi.dst with
    | none => rfl
    | some d =>
      simp only [Bool.and_eq_true, Bool.not_eq_true', bne_iff_ne, ne_eq]
      exact ⟨by simpa using h1 d hd, h2 d hd⟩
  · cases oj.dst with
    | none => rfl
    | some d => simp [Oper.looksAt, Op.operands]

/-- a value that is put may be put behind -/
theorem wpOp_swap {j : Nat} {oi oj : Oper} {v : Value} (hj : ops[j]? = some oj) (hap : oi.apart ops oj = true) (hsj : ∀ cs b, oj.op ≠ .select cs b) (hQ : ∀ c a w, Q (.panic c) (a.put oi.dst v) w → Q (.panic c) a w)
    {K : Act → World → Prop} {a : Act} {w : World} (h : wpOp P ops Q j K (a.put oi.dst v) w) : wpOp P ops Q j (fun a' w' => K (a'.put oi.dst v) w') a w :=
  wpOp_mono (fun _ _ h => h.2) (wpOp_put (oi := { oi with op := .move (.const v), guard := none }) hj (apart_fake hap) (fun _ _ h => by cases h) hsj hQ (.inl ⟨rfl, fun w => rfl⟩) h)

theorem first_R {i : Nat} {oi : Oper} {v : Value} (hi : ops[i]? = some oi) (hsel : ∀ (j : Nat) (o : Oper) cs b, ops[j]? = some o → o.op ≠ .select cs b) (hQ : ∀ c a w, Q (.panic c) (a.put oi.dst v) w → Q (.panic c) a w) :
    ∀ (f : Nat) (listed : Array Bool) (a : Act) (w : World),
      (∀ j oj, ops[j]? = some oj → j ≠ i → listed.getD j true = false → (∀ e ∈ oj.after, Region.binds md e = true → e.on ≠ i) → oi.apart ops oj = true) →
      i ∈ Region.ready md ops listed → YR P ops R oi v a → R w → wpAnyR P md ops Q R f (listed.setIfInBounds i true) (a.put oi.dst v) w → wpAnyR P md ops Q R (f + 1) listed a w := by
  intro f
  induction f with
  | zero =>
    intro listed a w _ hr hy hR H
    refine ⟨fun h => (by rw [h] at hr; cases hr), fun j hj => ?_⟩
    by_cases hji : j = i
    · subst hji; exact hy.wpOp hi hR ⟨hR, H⟩
    · have := ready_mono hj hji
      rw [H.1] at this
      cases this
  | succ f ih =>
    intro listed a w hfree hr hy hR H
    refine ⟨fun h => (by rw [h] at hr; cases hr), fun j hj => ?_⟩
    by_cases hji : j = i
    · subst hji; exact hy.wpOp hi hR ⟨hR, H⟩
    · have h1 := H.2 j (ready_mono hj hji)
      obtain ⟨hjun, oj, hoj, hall⟩ := mem_ready.1 hj
      have hnot : ∀ e ∈ oj.after, Region.binds md e = true → e.on ≠ i := fun e he hb heq => by
        have h1 := hall e he hb
        rw [heq, getD_both (mem_ready.1 hr).1] at h1
        cases h1
      have hap := hfree j oj hoj hji hjun hnot
      obtain ⟨_, _, h3⟩ := Oper.apart_spec hap
      have h2 := wpOp_swap hoj hap (fun cs b => hsel j oj cs b hoj) hQ h1
      have h4 := wpOp_keep (E := YR P ops R oi v) hoj (fun a u h => h.of_same (execOp_put oi (fun cs b => hsel i oi cs b hi) a oj.dst u h3) (wanted_put oi a oj.dst u h3)) (fun a d h => h.of_same rfl rfl) hy h2
      have hfree' : ∀ k ok, ops[k]? = some ok → k ≠ i → (listed.setIfInBounds j true).getD k true = false →
          (∀ e ∈ ok.after, Region.binds md e = true → e.on ≠ i) → oi.apart ops ok = true := fun k ok hk hki hun hno => by
        refine hfree k ok hk hki ?_ hno
        by_cases hjk : j = k
        · subst hjk; exact hjun
        · rw [getD_set_ne true hjk] at hun; exact hun
      refine wpOp_mono (fun a' w' h5 => ⟨h5.2.1, ih (listed.setIfInBounds j true) a' w' hfree' (ready_mono hr (Ne.symm hji)) h5.1 h5.2.1 ?_⟩) h4
      rw [Array.setIfInBounds_comm _ _ hji]
      exact h5.2.2

/-- what yields in every world of R, one behind the other -/
def wpReads (P : Program) (ops : Array Oper) (R : World → Prop) (K : Act → Prop) : List Oper → Act → Prop
  | [], a => K a
  | o :: rest, a => ∃ v, YR P ops R o v a ∧ wpReads P ops R K rest (a.put o.dst v)

theorem any_of_reads {K : Act → Prop} {g : Nat} {fin : Array Bool} {w : World} (hsel : Region.noSelect ops = true) (hQ : ∀ dst v c a w, Q (.panic c) (Act.put a dst v) w → Q (.panic c) a w) (hR : R w) (hK : ∀ a, K a → wpAnyR P md ops Q R g fin a w) :
    ∀ (p : List Nat) (listed : Array Bool) (a : Act), setAll listed p = fin → orderB md ops p listed = true → wpReads P ops R K (opsOf ops p) a → wpAnyR P md ops Q R (p.length + g) listed a w
  | [], listed, a, hs, _, h => by
    have hs' : listed = fin := hs
    rw [List.length_nil, Nat.zero_add, hs']; exact hK a h
  | i :: r, listed, a, hs, hB, h => by
    simp only [orderB, Bool.and_eq_true] at hB
    obtain ⟨⟨hr, hf⟩, hB'⟩ := hB
    have hr' : i ∈ Region.ready md ops listed := by simpa using hr
    obtain ⟨_, oi, hoi, _⟩ := mem_ready.1 hr'
    rw [opsOf_cons hoi] at h
    obtain ⟨v, hy, h'⟩ := h
    rw [List.length_cons, show r.length + 1 + g = (r.length + g) + 1 by omega]
    exact first_R hoi (Region.noSelect_spec hsel) (fun c a w h => hQ oi.dst v c a w h) _ _ _ _ (Region.free_spec hoi hf) hr' hy hR (any_of_reads hsel hQ hR hK r _ _ hs hB' h')

/-- segments: reads, then one operation, or two in either order -/
def wpSegsR (P : Program) (ops : Array Oper) (Q : Exit → Act → World → Prop) (R : World → Prop) : List (List Nat × List Nat) → Act → World → Prop
  | [], a, w => Q .normal a w
  | (p, cs) :: rest, a, w => wpReads P ops R (fun a2 => match cs with
      | [c] => wpOp P ops Q c (fun a' w' => R w' ∧ wpSegsR P ops Q R rest a' w') a2 w
      | [c, d] => wpOp P ops Q c (fun a' w' => R w' ∧ wpOp P ops Q d (fun a'' w'' => R w'' ∧ wpSegsR P ops Q R rest a'' w'') a' w') a2 w ∧
          wpOp P ops Q d (fun a' w' => R w' ∧ wpOp P ops Q c (fun a'' w'' => R w'' ∧ wpSegsR P ops Q R rest a'' w'') a' w') a2 w
      | _ => False) (opsOf ops p) a

def segsRB (md : Region.Mode) (ops : Array Oper) : List (List Nat × List Nat) → Array Bool → Bool
  | [], listed => (Region.ready md ops listed).isEmpty
  | (p, cs) :: rest, listed => orderB md ops p listed && match cs with
      | [c] => decide (Region.ready md ops (setAll listed p) = [c]) && segsRB md ops rest ((setAll listed p).setIfInBounds c true)
      | [c, d] => decide (Region.ready md ops (setAll listed p) = [c, d]) && decide (Region.ready md ops ((setAll listed p).setIfInBounds c true) = [d]) && decide (Region.ready md ops ((setAll listed p).setIfInBounds d true) = [c]) &&
          decide (c ≠ d) && segsRB md ops rest (((setAll listed p).setIfInBounds c true).setIfInBounds d true)
      | _ => false

def segsRFuel : List (List Nat × List Nat) → Nat
  | [] => 0
  | (p, cs) :: rest => p.length + (cs.length + segsRFuel rest)

theorem anyR_one {c f : Nat} {listed : Array Bool} {a : Act} {w : World} (h : Region.ready md ops listed = [c]) (hc : wpOp P ops Q c (fun a' w' => R w' ∧ wpAnyR P md ops Q R f (listed.setIfInBounds c true) a' w') a w) : wpAnyR P md ops Q R (f + 1) listed a w := by
  refine ⟨fun h0 => (by rw [h] at h0; cases h0), fun i hi => ?_⟩
  rw [h] at hi
  obtain rfl : i = c := by simpa using hi
  exact hc

theorem any_of_segsR (hsel : Region.noSelect ops = true) (hQ : ∀ dst v c a w, Q (.panic c) (Act.put a dst v) w → Q (.panic c) a w) : ∀ (segs : List (List Nat × List Nat)) (listed : Array Bool) (a : Act) (w : World), R w → segsRB md ops segs listed = true →
    wpSegsR P ops Q R segs a w → wpAnyR P md ops Q R (segsRFuel segs) listed a w
  | [], listed, a, w, _, hB, h => ⟨by simpa [segsRB] using hB, h⟩
  | (p, cs) :: rest, listed, a, w, hR, hB, h => by
    simp only [segsRB, Bool.and_eq_true] at hB
    obtain ⟨h1, h2⟩ := hB
    refine any_of_reads hsel hQ hR (fun a2 ha2 => ?_) p listed a rfl h1 h
    match cs, h2, ha2 with
    | [c], h2, ha2 =>
      simp only [Bool.and_eq_true, decide_eq_true_eq] at h2
      rw [show [c].length + segsRFuel rest = segsRFuel rest + 1 by simp; omega]
      exact anyR_one h2.1 (wpOp_mono (fun a' w' h' => ⟨h'.1, any_of_segsR hsel hQ rest _ a' w' h'.1 h2.2 h'.2⟩) ha2)
    | [c, d], h2, ha2 =>
      simp only [Bool.and_eq_true, decide_eq_true_eq] at h2
      obtain ⟨⟨⟨⟨h3, h4⟩, h5⟩, h6⟩, h7⟩ := h2
      rw [show [c, d].length + segsRFuel rest = segsRFuel rest + 1 + 1 by simp; omega]
      refine ⟨fun h0 => (by rw [h3] at h0; cases h0), fun i hi => ?_⟩
      rw [h3] at hi
      have hi' : i = c ∨ i = d := by simpa using hi
      rcases hi' with rfl | rfl
      · exact wpOp_mono (fun a' w' h' => ⟨h'.1, anyR_one h4 (wpOp_mono (fun a'' w'' h'' => ⟨h''.1, any_of_segsR hsel hQ rest _ a'' w'' h''.1 h7 h''.2⟩) h'.2)⟩) ha2.1
      · refine wpOp_mono (fun a' w' h' => ⟨h'.1, anyR_one h5 (wpOp_mono (fun a'' w'' h'' => ⟨h''.1, any_of_segsR hsel hQ rest _ a'' w'' h''.1 ?_ h''.2⟩) h'.2)⟩) ha2.2
        rw [Array.setIfInBounds_comm _ _ (Ne.symm h6)]
        exact h7

theorem region_segsR {id : Nat} {a : Act} {w : World} {l : List Oper} {Q : Exit → Act → World → Prop} (R : World → Prop) (segs : List (List Nat × List Nat)) (hm : P.follows .mixedOrders = true) (hQ : ∀ dst v c a w, Q (.panic c) (Act.put a dst v) w → Q (.panic c) a w)
    (hB : (Region.noSelect l.toArray && segsRB .any l.toArray segs (Array.replicate l.toArray.size false) && decide (segsRFuel segs = l.toArray.size)) = true) (hR : R w.drew)
    (h : Veil (wpSegsR P l.toArray Q R segs a w.drew)) : (Code.region id l.toArray true).wp P Q a w := by
  simp only [Bool.and_eq_true, decide_eq_true_eq] at hB
  obtain ⟨⟨hsel, hB⟩, hf⟩ := hB
  refine wp_region_any hm ?_
  show wpAny P .any l.toArray Q l.toArray.size (Array.replicate l.toArray.size false) a w.drew
  have key := any_of_segsR (md := .any) hsel hQ segs _ a _ hR hB h.out
  rw [hf] at key
  exact any_of_R _ _ _ _ key

/-! ### veiled steps -/
theorem r_segs {p cs : List Nat} {rest : List (List Nat × List Nat)} {a : Act} {w : World} (h : Veil (wpReads P ops R (fun a2 => match cs with
      | [c] => wpOp P ops Q c (fun a' w' => R w' ∧ wpSegsR P ops Q R rest a' w') a2 w
      | [c, d] => wpOp P ops Q c (fun a' w' => R w' ∧ wpOp P ops Q d (fun a'' w'' => R w'' ∧ wpSegsR P ops Q R rest a'' w'') a' w') a2 w ∧
          wpOp P ops Q d (fun a' w' => R w' ∧ wpOp P ops Q c (fun a'' w'' => R w'' ∧ wpSegsR P ops Q R rest a'' w'') a' w') a2 w
      | _ => False) (opsOf ops p) a)) : Veil (wpSegsR P ops Q R ((p, cs) :: rest) a w) := ⟨h.out⟩
/-- one read: in whatever world of R -/
theorem r_step {K : Act → Prop} {a : Act} {o : Oper} {rest : List Oper} (v : Value) (hw : Region.wanted o (yielded ops a.tmps) = true) (hv : ∀ w, R w → (execOp a.eval o).run P w = .ok (.value v) w) (h : Veil (wpReads P ops R K rest (a.put o.dst v))) :
    Veil (wpReads P ops R K (o :: rest) a) := ⟨⟨v, .inl ⟨hw, hv⟩, h.out⟩⟩
theorem r_read {K : Act → Prop} {a : Act} {o : Oper} {rest : List Oper} (v : Value) (hw : Region.wanted o (yielded ops a.tmps) = true) (hv : ∀ w, R w → (execOp a.eval o).run P w = .ok (.value v) w)
    (h : ∀ K' : Act → Prop, (∀ a, Veil (wpReads P ops R K rest a) → K' a) → K' (a.put o.dst v)) : Veil (wpReads P ops R K (o :: rest) a) := r_step v hw hv (h _ fun _ h => h)
theorem ite_yes {c A B : Prop} [Decidable c] (h : c) (ha : A) : if c then A else B := by rw [if_pos h]; exact ha
theorem r_nil1 {c : Nat} {rest : List (List Nat × List Nat)} {a : Act} {w : World} (h : Veil (wpOp P ops Q c (fun a' w' => R w' ∧ wpSegsR P ops Q R rest a' w') a w)) :
    Veil (wpReads P ops R (fun a2 => match [c] with
      | [c] => wpOp P ops Q c (fun a' w' => R w' ∧ wpSegsR P ops Q R rest a' w') a2 w
      | [c, d] => wpOp P ops Q c (fun a' w' => R w' ∧ wpOp P ops Q d (fun a'' w'' => R w'' ∧ wpSegsR P ops Q R rest a'' w'') a' w') a2 w ∧
          wpOp P ops Q d (fun a' w' => R w' ∧ wpOp P ops Q c (fun a'' w'' => R w'' ∧ wpSegsR P ops Q R rest a'' w'') a' w') a2 w
      | _ => False) [] a) := ⟨h.out⟩
theorem r_nil2 {c d : Nat} {rest : List (List Nat × List Nat)} {a : Act} {w : World} (h1 : Veil (wpOp P ops Q c (fun a' w' => R w' ∧ wpOp P ops Q d (fun a'' w'' => R w'' ∧ wpSegsR P ops Q R rest a'' w'') a' w') a w))
    (h2 : Veil (wpOp P ops Q d (fun a' w' => R w' ∧ wpOp P ops Q c (fun a'' w'' => R w'' ∧ wpSegsR P ops Q R rest a'' w'') a' w') a w)) :
    Veil (wpReads P ops R (fun a2 => match [c, d] with
      | [c] => wpOp P ops Q c (fun a' w' => R w' ∧ wpSegsR P ops Q R rest a' w') a2 w
      | [c, d] => wpOp P ops Q c (fun a' w' => R w' ∧ wpOp P ops Q d (fun a'' w'' => R w'' ∧ wpSegsR P ops Q R rest a'' w'') a' w') a2 w ∧
          wpOp P ops Q d (fun a' w' => R w' ∧ wpOp P ops Q c (fun a'' w'' => R w'' ∧ wpSegsR P ops Q R rest a'' w'') a' w') a2 w
      | _ => False) [] a) := ⟨h1.out, h2.out⟩
/-- one operation that may turn the world -/
theorem r_op {K : Act → World → Prop} {a : Act} {w : World} {i : Nat} {o : Oper} (hi : ops[i]? = some o)
    (h : ∀ K' : Act → World → Prop, (∀ a w, R w → Veil (K a w) → K' a w) → if Region.wanted o (yielded ops a.tmps) then o.wp P a w K' Q else K' (a.put o.dst undef) w) : Veil (wpOp P ops Q i (fun a' w' => R w' ∧ K a' w') a w) :=
  ⟨seg_step hi fun K' hK' => h K' fun a w hR ha => hK' a w ⟨hR, ha.out⟩⟩
theorem r_end {a : Act} {w : World} (h : Q .normal a w) : Veil (wpSegsR P ops Q R [] a w) := ⟨h⟩
end
end Go.Proofs.Ytnahipfdnadccaa
