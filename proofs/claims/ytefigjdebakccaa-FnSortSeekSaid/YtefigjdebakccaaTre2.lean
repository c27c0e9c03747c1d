/- Regions that draw their order, as a tree of reads and operations; the last operation, which waits for all others, may leave the relation between the worlds. -/
import Derived.Test.YtefigjdebakccaaTree
namespace Go.Proofs.Ytefigjdebakccaa

section
variable {P : Program} {ops : Array Oper} {md : Region.Mode} {Q : Exit → Act → World → Prop} {R : World → Prop} {L : Nat}

/-- any order, and behind each operation but L the world is one of R -/
def wpAnyL (P : Program) (md : Region.Mode) (ops : Array Oper) (Q : Exit → Act → World → Prop) (R : World → Prop) (L : Nat) : Nat → Array Bool → Act → World → Prop
  | 0, listed, a, w => Region.ready md ops listed = [] ∧ Q .normal a w
  | f + 1, listed, a, w => (Region.ready md ops listed = [] → Q .normal a w) ∧ ∀ i ∈ Region.ready md ops listed, wpOp P ops Q i (fun a' w' => (i ≠ L → R w') ∧ wpAnyL P md ops Q R L f (listed.setIfInBounds i true) a' w') a w

theorem any_of_L : ∀ (f : Nat) (listed : Array Bool) (a : Act) (w : World), wpAnyL P md ops Q R L f listed a w → wpAny P md ops Q f listed a w
  | 0, _, _, _, h => h
  | f + 1, _, _, _, h => ⟨h.1, fun i hi => wpOp_mono (fun a' w' h' => any_of_L f _ a' w' h'.2) (h.2 i hi)⟩

/-- operation L waits for all others -/
def lastB (md : Region.Mode) (ops : Array Oper) (L : Nat) : Bool :=
  match ops[L]? with
  | none => true
  | some o => (List.range ops.size).all fun k => k == L || o.after.any fun e => e.on == k && Region.binds md e
theorem last_ready {listed : Array Bool} {j : Nat} (hB : lastB md ops L = true) (hL : L ∈ Region.ready md ops listed) (hj : j ∈ Region.ready md ops listed) : j = L := by
  obtain ⟨_, o, ho, hall⟩ := mem_ready.1 hL
  obtain ⟨hju, oj, hoj, _⟩ := mem_ready.1 hj
  unfold lastB at hB
  rw [ho] at hB
  simp only [List.all_eq_true, List.mem_range, Bool.or_eq_true, beq_iff_eq, Array.any_eq_true', Bool.and_eq_true] at hB
  have hjs : j < ops.size := (Array.getElem?_eq_some_iff.1 hoj).1
  rcases hB j hjs with h | ⟨e, he, h1, h2⟩
  · exact h
  · have h3 := hall e he h2
    rw [h1, getD_both hju] at h3
    cases h3

theorem first_L {i : Nat} {oi : Oper} {v : Value} (hLB : lastB md ops L = true) (hi : ops[i]? = some oi) (hsel : ∀ (j : Nat) (o : Oper) cs b, ops[j]? = some o → o.op ≠ .select cs b) (hQ : ∀ c a w, Q (.panic c) (a.put oi.dst v) w → Q (.panic c) a w) :
    ∀ (f : Nat) (listed : Array Bool) (a : Act) (w : World),
      (∀ j oj, ops[j]? = some oj → j ≠ i → listed.getD j true = false → (∀ e ∈ oj.after, Region.binds md e = true → e.on ≠ i) → oi.apart ops oj = true) →
      i ∈ Region.ready md ops listed → YR P ops R oi v a → R w → wpAnyL P md ops Q R L f (listed.setIfInBounds i true) (a.put oi.dst v) w → wpAnyL P md ops Q R L (f + 1) listed a w := by
  intro f
  induction f with
  | zero =>
    intro listed a w _ hr hy hR H
    refine ⟨fun h => (by rw [h] at hr; cases hr), fun j hj => ?_⟩
    by_cases hji : j = i
    · subst hji; exact hy.wpOp hi hR ⟨fun _ => hR, H⟩
    · have := ready_mono hj hji
      rw [H.1] at this
      cases this
  | succ f ih =>
    intro listed a w hfree hr hy hR H
    refine ⟨fun h => (by rw [h] at hr; cases hr), fun j hj => ?_⟩
    by_cases hji : j = i
    · subst hji; exact hy.wpOp hi hR ⟨fun _ => hR, H⟩
    · have hjL : j ≠ L := by
        rintro rfl
        exact hji (last_ready hLB hj hr).symm
      have h1 := H.2 j (ready_mono hj hji)
      obtain ⟨hjun, oj, hoj, hall⟩ := mem_ready.1 hj
      have hnot : ∀ e ∈ oj.after, Region.binds md e = true → e.on ≠ i := fun e he hb heq => by
        have h1 := hall e he hb
        rw [heq, getD_both (mem_ready.1 hr).1] at h1
        cases h1
      have hap := hfree j oj hoj hji hjun hnot
      obtain ⟨_, _, h3⟩ := Oper.apart_spec hap
      have h2 := wpOp_swap hoj hap (fun cs b => hsel j oj cs b hoj) hQ h1
      have h4 := wpOp_keep (E := YR P ops R oi v) hoj (fun a u h => h.of_same (execOp_put oi (fun cs b => hsel i oi cs b hi) a oj.dst u h3) (wanted_put oi a oj.dst u h3)) (fun a d h => h.of_same rfl rfl) hy h2
      have hfree' : ∀ k ok, ops[k]? = some ok → k ≠ i → (listed.setIfInBounds j true).getD k true = false →
          (∀ e ∈ ok.after, Region.binds md e = true → e.on ≠ i) → oi.apart ops ok = true := fun k ok hk hki hun hno => by
        refine hfree k ok hk hki ?_ hno
        by_cases hjk : j = k
        · subst hjk; exact hjun
        · rw [getD_set_ne true hjk] at hun; exact hun
      refine wpOp_mono (fun a' w' h5 => ⟨h5.2.1, ih (listed.setIfInBounds j true) a' w' hfree' (ready_mono hr (Ne.symm hji)) h5.1 (h5.2.1 hjL) ?_⟩) h4
      rw [Array.setIfInBounds_comm _ _ hji]
      exact h5.2.2

theorem any_of_readsL {K : Act → Prop} {g : Nat} {fin : Array Bool} {w : World} (hLB : lastB md ops L = true) (hsel : Region.noSelect ops = true) (hQ : ∀ dst v c a w, Q (.panic c) (Act.put a dst v) w → Q (.panic c) a w) (hR : R w) (hK : ∀ a, K a → wpAnyL P md ops Q R L g fin a w) :
    ∀ (p : List Nat) (listed : Array Bool) (a : Act), setAll listed p = fin → orderB md ops p listed = true → wpReads P ops R K (opsOf ops p) a → wpAnyL P md ops Q R L (p.length + g) listed a w
  | [], listed, a, hs, _, h => by
    have hs' : listed = fin := hs
    rw [List.length_nil, Nat.zero_add, hs']; exact hK a h
  | i :: r, listed, a, hs, hB, h => by
    simp only [orderB, Bool.and_eq_true] at hB
    obtain ⟨⟨hr, hf⟩, hB'⟩ := hB
    have hr' : i ∈ Region.ready md ops listed := by simpa using hr
    obtain ⟨_, oi, hoi, _⟩ := mem_ready.1 hr'
    rw [opsOf_cons hoi] at h
    obtain ⟨v, hy, h'⟩ := h
    rw [List.length_cons, show r.length + 1 + g = (r.length + g) + 1 by omega]
    exact first_L hLB hoi (Region.noSelect_spec hsel) (fun c a w h => hQ oi.dst v c a w h) _ _ _ _ (Region.free_spec hoi hf) hr' hy hR (any_of_readsL hLB hsel hQ hR hK r _ _ hs hB' h')

theorem anyL_one {c f : Nat} {listed : Array Bool} {a : Act} {w : World} (h : Region.ready md ops listed = [c]) (hc : wpOp P ops Q c (fun a' w' => (c ≠ L → R w') ∧ wpAnyL P md ops Q R L f (listed.setIfInBounds c true) a' w') a w) : wpAnyL P md ops Q R L (f + 1) listed a w := by
  refine ⟨fun h0 => (by rw [h] at h0; cases h0), fun i hi => ?_⟩
  rw [h] at hi
  obtain rfl : i = c := by simpa using hi
  exact hc

/-- as wpTree; the operation ahead of the end need not keep R -/
def wpTreeL (P : Program) (ops : Array Oper) (Q : Exit → Act → World → Prop) (R : World → Prop) : Tr → Act → World → Prop
  | .stop, a, w => Q .normal a w
  | .one p c .stop, a, w => wpReads P ops R (fun a2 => wpOp P ops Q c (fun a' w' => Q .normal a' w') a2 w) (opsOf ops p) a
  | .one p c t, a, w => wpReads P ops R (fun a2 => wpOp P ops Q c (fun a' w' => R w' ∧ wpTreeL P ops Q R t a' w') a2 w) (opsOf ops p) a
  | .two p c t d u, a, w => wpReads P ops R (fun a2 => wpOp P ops Q c (fun a' w' => R w' ∧ wpTreeL P ops Q R t a' w') a2 w ∧ wpOp P ops Q d (fun a' w' => R w' ∧ wpTreeL P ops Q R u a' w') a2 w) (opsOf ops p) a

def treeLB (md : Region.Mode) (ops : Array Oper) (L : Nat) : Tr → Array Bool → Bool
  | .stop, listed => (Region.ready md ops listed).isEmpty
  | .one p c .stop, listed => orderB md ops p listed && (decide (Region.ready md ops (setAll listed p) = [c]) && (decide (c = L) && (Region.ready md ops ((setAll listed p).setIfInBounds c true)).isEmpty))
  | .one p c t, listed => orderB md ops p listed && (decide (Region.ready md ops (setAll listed p) = [c]) && treeLB md ops L t ((setAll listed p).setIfInBounds c true))
  | .two p c t d u, listed => orderB md ops p listed && (decide (Region.ready md ops (setAll listed p) = [c, d]) && (decide (t.fuel = u.fuel) &&
      (treeLB md ops L t ((setAll listed p).setIfInBounds c true) && treeLB md ops L u ((setAll listed p).setIfInBounds d true))))

theorem any_of_treeL (hLB : lastB md ops L = true) (hsel : Region.noSelect ops = true) (hQ : ∀ dst v c a w, Q (.panic c) (Act.put a dst v) w → Q (.panic c) a w) : ∀ (t : Tr) (listed : Array Bool) (a : Act) (w : World), R w → treeLB md ops L t listed = true →
    wpTreeL P ops Q R t a w → wpAnyL P md ops Q R L t.fuel listed a w
  | .stop, listed, a, w, _, hB, h => ⟨by simpa [treeLB] using hB, h⟩
  | .one p c .stop, listed, a, w, hR, hB, h => by
    simp only [treeLB, Bool.and_eq_true, decide_eq_true_eq] at hB
    obtain ⟨h1, h2, h3, h4⟩ := hB
    refine any_of_readsL hLB hsel hQ hR (fun a2 ha2 => ?_) p listed a rfl h1 h
    exact anyL_one h2 (wpOp_mono (fun a' w' h' => ⟨fun h => absurd h3 h, by simpa using h4, h'⟩) ha2)
  | .one p c (.one p2 c2 t2), listed, a, w, hR, hB, h => by
    simp only [treeLB, Bool.and_eq_true, decide_eq_true_eq] at hB
    obtain ⟨h1, h2, h3⟩ := hB
    refine any_of_readsL hLB hsel hQ hR (fun a2 ha2 => ?_) p listed a rfl h1 h
    exact anyL_one h2 (wpOp_mono (fun a' w' h' => ⟨fun _ => h'.1, any_of_treeL hLB hsel hQ (.one p2 c2 t2) _ a' w' h'.1 h3 h'.2⟩) ha2)
  | .one p c (.two p2 c2 t2 d2 u2), listed, a, w, hR, hB, h => by
    simp only [treeLB, Bool.and_eq_true, decide_eq_true_eq] at hB
    obtain ⟨h1, h2, h3⟩ := hB
    refine any_of_readsL hLB hsel hQ hR (fun a2 ha2 => ?_) p listed a rfl h1 h
    exact anyL_one (by simpa using h2) (wpOp_mono (fun a' w' h' => ⟨fun _ => h'.1, any_of_treeL hLB hsel hQ (.two p2 c2 t2 d2 u2) _ a' w' h'.1 (by simpa [treeLB] using h3) h'.2⟩) ha2)
  | .two p c t d u, listed, a, w, hR, hB, h => by
    simp only [treeLB, Bool.and_eq_true, decide_eq_true_eq] at hB
    obtain ⟨h1, h2, h3, h4, h5⟩ := hB
    refine any_of_readsL hLB hsel hQ hR (fun a2 ha2 => ?_) p listed a rfl h1 h
    refine ⟨fun h0 => (by rw [h2] at h0; cases h0), fun i hi => ?_⟩
    rw [h2] at hi
    have hi' : i = c ∨ i = d := by simpa using hi
    rcases hi' with rfl | rfl
    · exact wpOp_mono (fun a' w' h' => ⟨fun _ => h'.1, any_of_treeL hLB hsel hQ t _ a' w' h'.1 h4 h'.2⟩) ha2.1
    · rw [h3]
      exact wpOp_mono (fun a' w' h' => ⟨fun _ => h'.1, any_of_treeL hLB hsel hQ u _ a' w' h'.1 h5 h'.2⟩) ha2.2

theorem region_treeL {id : Nat} {a : Act} {w : World} {l : List Oper} {Q : Exit → Act → World → Prop} (L : Nat) (R : World → Prop) (t : Tr) (hm : P.follows .mixedOrders = true) (hQ : ∀ dst v c a w, Q (.panic c) (Act.put a dst v) w → Q (.panic c) a w)
    (hB : (Region.noSelect l.toArray && lastB .any l.toArray L && treeLB .any l.toArray L t (Array.replicate l.toArray.size false) && decide (t.fuel = l.toArray.size)) = true) (hR : R w.drew)
    (h : Veil (wpTreeL P l.toArray Q R t a w.drew)) : (Code.region id l.toArray true).wp P Q a w := by
  simp only [Bool.and_eq_true, decide_eq_true_eq] at hB
  obtain ⟨⟨⟨hsel, hLB⟩, hB⟩, hf⟩ := hB
  refine wp_region_any hm ?_
  show wpAny P .any l.toArray Q l.toArray.size (Array.replicate l.toArray.size false) a w.drew
  have key := any_of_treeL (md := .any) hLB hsel hQ t _ a _ hR hB h.out
  rw [hf] at key
  exact any_of_L _ _ _ _ key

/-! ### veiled steps (reads: r_read; operations: r_op; the last one: l_op) -/
theorem l_one {p : List Nat} {c : Nat} {t : Tr} {a : Act} {w : World} (ht : t ≠ .stop) (h : Veil (wpReads P ops R (fun a2 => wpOp P ops Q c (fun a' w' => R w' ∧ wpTreeL P ops Q R t a' w') a2 w) (opsOf ops p) a)) : Veil (wpTreeL P ops Q R (.one p c t) a w) := by
  refine ⟨?_⟩
  cases t with
  | stop => exact absurd rfl ht
  | one p2 c2 t2 => exact h.out
  | two p2 c2 t2 d2 u2 => exact h.out
theorem l_end {p : List Nat} {c : Nat} {a : Act} {w : World} (h : Veil (wpReads P ops R (fun a2 => wpOp P ops Q c (fun a' w' => Q .normal a' w') a2 w) (opsOf ops p) a)) : Veil (wpTreeL P ops Q R (.one p c .stop) a w) := ⟨h.out⟩
theorem l_two {p : List Nat} {c d : Nat} {t u : Tr} {a : Act} {w : World}
    (h : Veil (wpReads P ops R (fun a2 => wpOp P ops Q c (fun a' w' => R w' ∧ wpTreeL P ops Q R t a' w') a2 w ∧ wpOp P ops Q d (fun a' w' => R w' ∧ wpTreeL P ops Q R u a' w') a2 w) (opsOf ops p) a)) : Veil (wpTreeL P ops Q R (.two p c t d u) a w) := ⟨h.out⟩
theorem l_nil1 {c : Nat} {t : Tr} {a : Act} {w : World} (h : Veil (wpOp P ops Q c (fun a' w' => R w' ∧ wpTreeL P ops Q R t a' w') a w)) : Veil (wpReads P ops R (fun a2 => wpOp P ops Q c (fun a' w' => R w' ∧ wpTreeL P ops Q R t a' w') a2 w) [] a) := ⟨h.out⟩
theorem l_nile {c : Nat} {a : Act} {w : World} (h : Veil (wpOp P ops Q c (fun a' w' => Q .normal a' w') a w)) : Veil (wpReads P ops R (fun a2 => wpOp P ops Q c (fun a' w' => Q .normal a' w') a2 w) [] a) := ⟨h.out⟩
theorem l_nil2 {c d : Nat} {t u : Tr} {a : Act} {w : World} (h1 : Veil (wpOp P ops Q c (fun a' w' => R w' ∧ wpTreeL P ops Q R t a' w') a w)) (h2 : Veil (wpOp P ops Q d (fun a' w' => R w' ∧ wpTreeL P ops Q R u a' w') a w)) :
    Veil (wpReads P ops R (fun a2 => wpOp P ops Q c (fun a' w' => R w' ∧ wpTreeL P ops Q R t a' w') a2 w ∧ wpOp P ops Q d (fun a' w' => R w' ∧ wpTreeL P ops Q R u a' w') a2 w) [] a) := ⟨h1.out, h2.out⟩
theorem l_op {a : Act} {w : World} {i : Nat} {o : Oper} (hi : ops[i]? = some o)
    (h : ∀ K' : Act → World → Prop, (∀ a w, Veil (Q .normal a w) → K' a w) → if Region.wanted o (yielded ops a.tmps) then o.wp P a w K' Q else K' (a.put o.dst undef) w) : Veil (wpOp P ops Q i (fun a' w' => Q .normal a' w') a w) :=
  ⟨seg_step hi fun K' hK' => h K' fun a w ha => hK' a w ha.out⟩
theorem l_one0 {c : Nat} {t : Tr} {a : Act} {w : World} (ht : t ≠ .stop) (h : Veil (wpOp P ops Q c (fun a' w' => R w' ∧ wpTreeL P ops Q R t a' w') a w)) : Veil (wpTreeL P ops Q R (.one [] c t) a w) := l_one ht ⟨h.out⟩
theorem l_end0 {c : Nat} {a : Act} {w : World} (h : Veil (wpOp P ops Q c (fun a' w' => Q .normal a' w') a w)) : Veil (wpTreeL P ops Q R (.one [] c .stop) a w) := ⟨h.out⟩
theorem l_two0 {c d : Nat} {t u : Tr} {a : Act} {w : World} (h1 : Veil (wpOp P ops Q c (fun a' w' => R w' ∧ wpTreeL P ops Q R t a' w') a w)) (h2 : Veil (wpOp P ops Q d (fun a' w' => R w' ∧ wpTreeL P ops Q R u a' w') a w)) :
    Veil (wpTreeL P ops Q R (.two [] c t d u) a w) := ⟨h1.out, h2.out⟩
theorem veil_out {p : Prop} (h : p) : Veil p := ⟨h⟩
end
end Go.Proofs.Ytefigjdebakccaa
