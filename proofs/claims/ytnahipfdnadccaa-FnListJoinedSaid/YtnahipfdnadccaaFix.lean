/- A law for the walks: a region that draws its order, met in ONE order: first what yields in whatever world (p1), then what leaves the world at hand and is asked for by all that comes behind (p2), then a tail whose order is forced (p3). Whatever program. -/
import Derived.Still
import Derived.StillTail
import Derived.Tactics
namespace Go.Proofs.Ytnahipfdnadccaa

section
variable {P : Program} {ops : Array Oper} {md : Region.Mode} {w : World}

def dependsOn (md : Region.Mode) (ops : Array Oper) : Nat → Nat → Nat → Bool
  | 0, _, _ => false
  | f + 1, t, i => match ops[t]? with
    | some o => o.after.any fun e => Region.binds md e && (e.on == i || dependsOn md ops f e.on i)
    | none => false

structure FixInv (md : Region.Mode) (ops : Array Oper) (listed : Array Bool) : Prop where
  size : listed.size = ops.size
  closed : ∀ j oj, ops[j]? = some oj → listed.getD j false = true → ∀ e ∈ oj.after, Region.binds md e = true → listed.getD e.on false = true

theorem FixInv.set {listed : Array Bool} {i : Nat} (inv : FixInv md ops listed) (hi : i ∈ Region.ready md ops listed) : FixInv md ops (listed.setIfInBounds i true) := by
  obtain ⟨_, oi, hoi, hall⟩ := mem_ready.1 hi
  refine ⟨by simp [inv.size], fun j oj hj hl e he hb => ?_⟩
  by_cases hij : i = j
  · subst hij
    have : oj = oi := Option.some.inj (hj.symm.trans hoi)
    subst this
    exact getD_set_true (hall e he hb)
  · rw [getD_set_ne false hij] at hl
    exact getD_set_true (inv.closed j oj hj hl e he hb)

theorem dep_listed {listed : Array Bool} (inv : FixInv md ops listed) (i : Nat) : ∀ (f t : Nat) (ot : Oper), ops[t]? = some ot → (∀ e ∈ ot.after, Region.binds md e = true → listed.getD e.on false = true) → dependsOn md ops f t i = true → listed.getD i false = true
  | 0, _, _, _, _, h => by simp [dependsOn] at h
  | f + 1, t, ot, ht, hall, h => by
    simp only [dependsOn, ht] at h
    obtain ⟨e, he, h2⟩ := Array.any_eq_true'.1 h
    simp only [Bool.and_eq_true, Bool.or_eq_true, beq_iff_eq] at h2
    obtain ⟨hb, h3⟩ := h2
    have h4 := hall e he hb
    rcases h3 with h3 | h3
    · rw [← h3]; exact h4
    · cases hoj : ops[e.on]? with
      | none => cases f <;> simp [dependsOn, hoj] at h3
      | some oj => exact dep_listed inv i f e.on oj hoj (fun e' he' hb' => inv.closed e.on oj hoj h4 e' he' hb') h3

def wpAnyK (P : Program) (md : Region.Mode) (ops : Array Oper) (w : World) (hd : List Nat) (L : Array Bool → Act → Prop) : Nat → Array Bool → Act → Prop
  | 0, listed, a => L listed a
  | f + 1, listed, a =>
    Region.ready md ops listed ≠ [] ∧ ∀ i ∈ Region.ready md ops listed, i ∈ hd ∧ stOp P ops w i (wpAnyK P md ops w hd L f (listed.setIfInBounds i true)) a

theorem wpAny_of_K {hd : List Nat} {g : Nat} {L : Array Bool → Act → Prop} {Q' : Exit → Act → World → Prop} (hL : ∀ listed a, L listed a → wpAny P md ops Q' g listed a w) :
    ∀ (f : Nat) (listed : Array Bool) (a : Act), wpAnyK P md ops w hd L f listed a → wpAny P md ops Q' (f + g) listed a w
  | 0, listed, a, h => by rw [Nat.zero_add]; exact hL _ _ h
  | f + 1, listed, a, h => by
    rw [show f + 1 + g = (f + g) + 1 by omega]
    exact ⟨fun h0 => absurd h0 h.1, fun i hi => wpOp_of_stOp (fun a' h' => wpAny_of_K hL f _ a' h') (h.2 i hi).2⟩

/-- while one of the head is left, nothing else may come up -/
def HeadLast (md : Region.Mode) (ops : Array Oper) (done hd : List Nat) : Prop := ∀ t ot, ops[t]? = some ot → t ∈ done ∨ t ∈ hd ∨ ∀ i ∈ hd, dependsOn md ops ops.size t i = true

theorem K_first {hd done : List Nat} {i : Nat} {oi : Oper} {v : Value} {L : Array Bool → Act → Prop} (hi : ops[i]? = some oi) (hsel : ∀ (j : Nat) (o : Oper) cs b, ops[j]? = some o → o.op ≠ .select cs b)
    (hT : HeadLast md ops done hd) (hin : i ∈ hd) (hdone : ∀ listed a, L listed a → ∀ j ∈ Region.ready md ops listed, j ∉ hd) :
    ∀ (f : Nat) (listed : Array Bool) (a : Act), FixInv md ops listed → (∀ t ∈ done, listed.getD t true = true) →
      (∀ j oj, ops[j]? = some oj → j ≠ i → listed.getD j true = false → (∀ e ∈ oj.after, Region.binds md e = true → e.on ≠ i) → oi.apart ops oj = true) →
      i ∈ Region.ready md ops listed → YieldsAt P ops w oi v a →
      wpAnyK P md ops w hd L f (listed.setIfInBounds i true) (a.put oi.dst v) → wpAnyK P md ops w hd L (f + 1) listed a := by
  have tail : ∀ (listed : Array Bool), FixInv md ops listed → (∀ t ∈ done, listed.getD t true = true) → i ∈ Region.ready md ops listed → ∀ j ∈ Region.ready md ops listed, j ∈ hd := by
    intro listed inv hd1 hr j hj
    obtain ⟨hun, oj, hoj, hall⟩ := mem_ready.1 hj
    rcases hT j oj hoj with h | h | h
    · rw [hd1 j h] at hun; cases hun
    · exact h
    · have h1 := dep_listed inv i _ j oj hoj hall (h i hin)
      have h2 := getD_both (mem_ready.1 hr).1
      rw [h2] at h1; cases h1
  intro f
  induction f with
  | zero =>
    intro listed a inv hd1 _ hr hy H
    refine ⟨fun h => (by rw [h] at hr; cases hr), fun j hj => ⟨tail listed inv hd1 hr j hj, ?_⟩⟩
    by_cases hji : j = i
    · subst hji; exact hy.stOp hi H
    · exact absurd (tail listed inv hd1 hr j hj) (hdone _ _ H j (ready_mono hj hji))
  | succ f ih =>
    intro listed a inv hd1 hfree hr hy H
    refine ⟨fun h => (by rw [h] at hr; cases hr), fun j hj => ⟨tail listed inv hd1 hr j hj, ?_⟩⟩
    by_cases hji : j = i
    · subst hji; exact hy.stOp hi H
    · have h1 := (H.2 j (ready_mono hj hji)).2
      obtain ⟨hjun, oj, hoj, hall⟩ := mem_ready.1 hj
      have hun := (mem_ready.1 hr).1
      have hnot : ∀ e ∈ oj.after, Region.binds md e = true → e.on ≠ i := fun e he hb heq => by
        have h1 := hall e he hb
        rw [heq, getD_both hun] at h1
        cases h1
      have h2 := stOp_put hoj (hfree j oj hoj hji hjun hnot) (fun cs b => hsel i oi cs b hi) (fun cs b => hsel j oj cs b hoj) hy h1
      have hfree' : ∀ k ok, ops[k]? = some ok → k ≠ i → (listed.setIfInBounds j true).getD k true = false →
          (∀ e ∈ ok.after, Region.binds md e = true → e.on ≠ i) → oi.apart ops ok = true := fun k ok hk hki hun hno => by
        refine hfree k ok hk hki ?_ hno
        by_cases hjk : j = k
        · subst hjk; exact hjun
        · rw [getD_set_ne true hjk] at hun; exact hun
      have hd2 : ∀ t ∈ done, (listed.setIfInBounds j true).getD t true = true := fun t ht => by
        by_cases hjt : j = t
        · subst hjt
          have := hd1 j ht
          rw [hjun] at this; cases this
        · rw [getD_set_ne true hjt]; exact hd1 t ht
      refine stOp_mono (fun a' h3 => ih (listed.setIfInBounds j true) a' (inv.set hj) hd2 hfree' (ready_mono hr (Ne.symm hji)) h3.1 ?_) h2
      rw [Array.setIfInBounds_comm _ _ hji]
      exact h3.2

def setAll (listed : Array Bool) : List Nat → Array Bool
  | [] => listed
  | i :: r => setAll (listed.setIfInBounds i true) r
/-- each may come up where it stands, and none that may come up before it hangs on it or writes what it reads -/
def orderB (md : Region.Mode) (ops : Array Oper) : List Nat → Array Bool → Bool
  | [], _ => true
  | i :: r, listed => (Region.ready md ops listed).contains i && Region.free md ops listed i && orderB md ops r (listed.setIfInBounds i true)
def forcedB (md : Region.Mode) (ops : Array Oper) : List Nat → Array Bool → Bool
  | [], listed => (Region.ready md ops listed).isEmpty
  | i :: r, listed => decide (Region.ready md ops listed = [i]) && forcedB md ops r (listed.setIfInBounds i true)

def opsOf (ops : Array Oper) : List Nat → List Oper
  | [] => []
  | i :: r => match ops[i]? with | some o => o :: opsOf ops r | none => opsOf ops r

theorem opsOf_cons {i : Nat} {r : List Nat} {o : Oper} (h : ops[i]? = some o) : opsOf ops (i :: r) = o :: opsOf ops r := by simp [opsOf, h]

theorem K_list {hd done : List Nat} {Lq : Act → Prop} {fin : Array Bool} (hsel : Region.noSelect ops = true) (hT : HeadLast md ops done hd) (hfin : ∀ j ∈ Region.ready md ops fin, j ∉ hd) :
    ∀ (p : List Nat) (listed : Array Bool) (a : Act), (∀ i ∈ p, i ∈ hd) → setAll listed p = fin → FixInv md ops listed → (∀ t ∈ done, listed.getD t true = true) → orderB md ops p listed = true → wpStill P ops w Lq (opsOf ops p) a →
      wpAnyK P md ops w hd (fun listed' a' => listed' = fin ∧ Lq a') p.length listed a
  | [], listed, a, _, hs, _, _, _, h => ⟨hs, h⟩
  | i :: r, listed, a, hin, hs, inv, hd1, hB, h => by
    simp only [orderB, Bool.and_eq_true] at hB
    obtain ⟨⟨hr, hf⟩, hB'⟩ := hB
    have hr' : i ∈ Region.ready md ops listed := by simpa using hr
    obtain ⟨hun, oi, hoi, _⟩ := mem_ready.1 hr'
    rw [opsOf_cons hoi] at h
    have hst : stOp P ops w i (wpStill P ops w Lq (opsOf ops r)) a := by unfold stOp; simp only [hoi]; exact h
    obtain ⟨v, hy, hK⟩ := yieldsAt_of_stOp hoi hst
    refine K_first hoi (Region.noSelect_spec hsel) hT (hin i (.head _)) (fun listed' a' (hL : listed' = fin ∧ Lq a') j hj => hfin j (hL.1 ▸ hj)) r.length listed a inv hd1 (Region.free_spec hoi hf) hr' hy
      (K_list hsel hT hfin r _ _ (fun j hj => hin j (.tail _ hj)) hs (inv.set hr') (fun t ht => ?_) hB' hK)
    by_cases hit : i = t
    · subst hit
      have := hd1 i ht
      rw [hun] at this; cases this
    · rw [getD_set_ne true hit]; exact hd1 t ht

theorem any_of_forced {Q : Exit → Act → World → Prop} : ∀ (p : List Nat) (listed : Array Bool) (a : Act) (w : World), forcedB md ops p listed = true → wpList P ops Q (opsOf ops p) a w → wpAny P md ops Q p.length listed a w
  | [], _, _, _, hB, h => ⟨by simpa [forcedB] using hB, h⟩
  | i :: r, listed, a, w, hB, h => by
    simp only [forcedB, Bool.and_eq_true, decide_eq_true_eq] at hB
    have hir : i ∈ Region.ready md ops listed := by rw [hB.1]; exact .head _
    obtain ⟨_, oi, hoi, _⟩ := mem_ready.1 hir
    rw [opsOf_cons hoi] at h
    refine ⟨fun h1 => (by rw [hB.1] at h1; cases h1), fun j hj => ?_⟩
    rw [hB.1] at hj
    have hji : j = i := by simpa using hj
    subst hji
    have hw : wpOp P ops Q j (wpList P ops Q (opsOf ops r)) a w := by unfold wpOp; simp only [hoi]; exact h
    exact wpOp_mono (fun a' w' h' => any_of_forced r _ a' w' hB.2 h') hw

/-- what yields in whatever world -/
def wpPure (P : Program) (ops : Array Oper) (K : Act → Prop) : List Oper → Act → Prop
  | [], a => K a
  | o :: rest, a => ∃ v, Yields P ops o v a ∧ wpPure P ops K rest (a.put o.dst v)

theorem wpPure_nil {K : Act → Prop} {a : Act} (h : K a) : wpPure P ops K [] a := h
theorem wpPure_step {K : Act → Prop} {a : Act} {o : Oper} {rest : List Oper} (v : Value) (hg : o.guard = none) (hv : ∀ w, (execOp a.eval o).run P w = .ok (.value v) w) (h : wpPure P ops K rest (a.put o.dst v)) : wpPure P ops K (o :: rest) a :=
  ⟨v, .inl ⟨by simp [Region.wanted, hg], hv⟩, h⟩

theorem any_of_pure {Q : Exit → Act → World → Prop} {K : Act → Prop} {g : Nat} {fin : Array Bool} (hsel : Region.noSelect ops = true) (hQ : ∀ dst v c a w, Q (.panic c) (Act.put a dst v) w → Q (.panic c) a w) (hK : ∀ a, K a → wpAny P md ops Q g fin a w) :
    ∀ (p : List Nat) (listed : Array Bool) (a : Act), setAll listed p = fin → orderB md ops p listed = true → wpPure P ops K (opsOf ops p) a → wpAny P md ops Q (p.length + g) listed a w
  | [], listed, a, hs, _, h => by
    have hs' : listed = fin := hs
    rw [List.length_nil, Nat.zero_add, hs']; exact hK a h
  | i :: r, listed, a, hs, hB, h => by
    simp only [orderB, Bool.and_eq_true] at hB
    obtain ⟨⟨hr, hf⟩, hB'⟩ := hB
    have hr' : i ∈ Region.ready md ops listed := by simpa using hr
    obtain ⟨_, oi, hoi, _⟩ := mem_ready.1 hr'
    rw [opsOf_cons hoi] at h
    obtain ⟨v, hy, h'⟩ := h
    rw [List.length_cons, show r.length + 1 + g = (r.length + g) + 1 by omega]
    exact wpAny_take hoi hsel hf hr (fun c a w h => hQ oi.dst v c a w h) hy (any_of_pure hsel hQ hK r _ _ hs hB' h')

theorem inv_all : ∀ (p : List Nat) (listed : Array Bool), FixInv md ops listed → orderB md ops p listed = true → FixInv md ops (setAll listed p)
  | [], _, inv, _ => inv
  | i :: r, listed, inv, hB => by
    simp only [orderB, Bool.and_eq_true] at hB
    exact inv_all r _ (inv.set (by simpa using hB.1.1)) hB.2

/-- the kernel's look: the three parts are an order of the region, and it may be taken for all of them -/
def fixB (md : Region.Mode) (ops : Array Oper) (p1 p2 p3 : List Nat) : Bool :=
  let L0 := Array.replicate ops.size false
  let L1 := setAll L0 p1
  let L2 := setAll L1 p2
  Region.noSelect ops && orderB md ops p1 L0 && orderB md ops p2 L1 && (p1.all fun t => L1.getD t true) &&
    ((List.range ops.size).all fun t => p1.contains t || p2.contains t || p2.all fun i => dependsOn md ops ops.size t i) &&
    ((Region.ready md ops L2).all fun j => !p2.contains j) && forcedB md ops p3 L2 && decide (p1.length + (p2.length + p3.length) = ops.size)

theorem region_fix {id : Nat} {Q : Exit → Act → World → Prop} {a : Act} {l : List Oper} (p1 p2 p3 : List Nat) (hm : P.follows .mixedOrders = true) (hQ : ∀ dst v c a w, Q (.panic c) (Act.put a dst v) w → Q (.panic c) a w)
    (hB : fixB .any l.toArray p1 p2 p3 = true)
    (h : wpPure P l.toArray (fun a1 => wpStill P l.toArray w.drew (fun a2 => wpList P l.toArray Q (opsOf l.toArray p3) a2 w.drew) (opsOf l.toArray p2) a1) (opsOf l.toArray p1) a) :
    (Code.region id l.toArray true).wp P Q a w := by
  simp only [fixB, Bool.and_eq_true, decide_eq_true_eq] at hB
  obtain ⟨⟨⟨⟨⟨⟨⟨hsel, h1⟩, h2⟩, h3⟩, h4⟩, h5⟩, h6⟩, h7⟩ := hB
  have inv0 : FixInv .any l.toArray (Array.replicate l.toArray.size false) := ⟨by simp, fun j oj _ hl => (by rw [getD_replicate_false] at hl; cases hl)⟩
  refine wp_region_any hm ?_
  show wpAny P .any l.toArray Q l.toArray.size (Array.replicate l.toArray.size false) a w.drew
  suffices key : wpAny P .any l.toArray Q (p1.length + (p2.length + p3.length)) (Array.replicate l.toArray.size false) a w.drew by rw [h7] at key; exact key
  refine any_of_pure hsel hQ (fun a1 ha1 => ?_) p1 _ a rfl h1 h
  refine wpAny_of_K (hd := p2) (L := fun listed' a' => listed' = setAll (setAll (Array.replicate l.toArray.size false) p1) p2 ∧ wpList P l.toArray Q (opsOf l.toArray p3) a' w.drew) (fun listed a' hL => ?_) p2.length _ a1 ?_
  · obtain ⟨rfl, hL⟩ := hL
    exact any_of_forced p3 _ a' _ h6 hL
  · refine K_list (done := p1) hsel (fun t ot ht => ?_) (fun j hj => ?_) p2 _ a1 (fun i hi => hi) rfl (inv_all p1 _ inv0 h1) (fun t ht => ?_) h2 ha1
    · have := List.all_eq_true.1 h4 t (List.mem_range.2 (Array.getElem?_eq_some_iff.1 ht).1)
      simp only [Bool.or_eq_true, List.all_eq_true, List.contains_iff_mem] at this
      rcases this with (h | h) | h
      · exact .inl h
      · exact .inr (.inl h)
      · exact .inr (.inr h)
    · have := List.all_eq_true.1 h5 j hj
      simpa using this
    · exact List.all_eq_true.1 h3 t ht

end
end Go.Proofs.Ytnahipfdnadccaa
