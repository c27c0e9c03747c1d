/- A law for the walks: a region that draws its order, met in ONE order: first what yields in whatever world (p1), then what leaves the world at hand and is asked for by all that comes behind (p2), then a tail whose order is forced (p3). Whatever program.

A law for the walks: a region that draws its order and holds several calls, each forced behind all that stands ahead of it: met in ONE order: what stands ahead of a call leaves the world at hand; then the call; and so on; then a tail whose order is forced. Whatever program.

Steps of a region in segments, what comes behind behind a veil: whatever looks at a goal's head does not look through it. Conditions of this file: none.

A law for the walks: a region that draws its order, in segments, where what is read may be read at any time: it reads the same in every world that the region comes to (R). Whatever program. Conditions of this file: none.

A law for the walks: a region that draws its order, as a tree: what may be read at any time, then one operation or one of two, and behind each its own tree. Whatever program. Conditions of this file: none. -/
import Derived.Still
import Derived.StillTail
import Derived.Tactics
namespace Go.Proofs.Ytefigjdebakccaa

section
variable {P : Program} {ops : Array Oper} {md : Region.Mode} {w : World}

def dependsOn (md : Region.Mode) (ops : Array Oper) : Nat → Nat → Nat → Bool
  | 0, _, _ => false
  | f + 1, t, i => match ops[t]? with
    | some o => o.after.any fun e => Region.binds md e && (e.on == i || dependsOn md ops f e.on i)
    | none => false

structure FixInv (md : Region.Mode) (ops : Array Oper) (listed : Array Bool) : Prop where
  size : listed.size = ops.size
  closed : ∀ j oj, ops[j]? = some oj → listed.getD j false = true → ∀ e ∈ oj.after, Region.binds md e = true → listed.getD e.on false = true

theorem FixInv.set {listed : Array Bool} {i : Nat} (inv : FixInv md ops listed) (hi : i ∈ Region.ready md ops listed) : FixInv md ops (listed.setIfInBounds i true) := by
  obtain ⟨_, oi, hoi, hall⟩ := mem_ready.1 hi
  refine ⟨by simp [inv.size], fun j oj hj hl e he hb => ?_⟩
  by_cases hij : i = j
  · subst hij
    have : oj = oi := Option.some.inj (hj.symm.trans hoi)
    subst this
    exact getD_set_true (hall e he hb)
  · rw [getD_set_ne false hij] at hl
    exact getD_set_true (inv.closed j oj hj hl e he hb)

theorem dep_listed {listed : Array Bool} (inv : FixInv md ops listed) (i : Nat) : ∀ (f t : Nat) (ot : Oper), ops[t]? = some ot → (∀ e ∈ ot.after, Region.binds md e = true → listed.getD e.on false = true) → dependsOn md ops f t i = true → listed.getD i false = true
  | 0, _, _, _, _, h => by simp [dependsOn] at h
  | f + 1, t, ot, ht, hall, h => by
    simp only [dependsOn, ht] at h
    obtain ⟨e, he, h2⟩ := Array.any_eq_true'.1 h
    simp only [Bool.and_eq_true, Bool.or_eq_true, beq_iff_eq] at h2
    obtain ⟨hb, h3⟩ := h2
    have h4 := hall e he hb
    rcases h3 with h3 | h3
    · rw [← h3]; exact h4
    · cases hoj : ops[e.on]? with
      | none => cases f <;> simp [dependsOn, hoj] at h3
      | some oj => exact dep_listed inv i f e.on oj hoj (fun e' he' hb' => inv.closed e.on oj hoj h4 e' he' hb') h3

def wpAnyK (P : Program) (md : Region.Mode) (ops : Array Oper) (w : World) (hd : List Nat) (L : Array Bool → Act → Prop) : Nat → Array Bool → Act → Prop
  | 0, listed, a => L listed a
  | f + 1, listed, a =>
    Region.ready md ops listed ≠ [] ∧ ∀ i ∈ Region.ready md ops listed, i ∈ hd ∧ stOp P ops w i (wpAnyK P md ops w hd L f (listed.setIfInBounds i true)) a

theorem wpAny_of_K {hd : List Nat} {g : Nat} {L : Array Bool → Act → Prop} {Q' : Exit → Act → World → Prop} (hL : ∀ listed a, L listed a → wpAny P md ops Q' g listed a w) :
    ∀ (f : Nat) (listed : Array Bool) (a : Act), wpAnyK P md ops w hd L f listed a → wpAny P md ops Q' (f + g) listed a w
  | 0, listed, a, h => by rw [Nat.zero_add]; exact hL _ _ h
  | f + 1, listed, a, h => by
    rw [show f + 1 + g = (f + g) + 1 by omega]
    exact ⟨fun h0 => absurd h0 h.1, fun i hi => wpOp_of_stOp (fun a' h' => wpAny_of_K hL f _ a' h') (h.2 i hi).2⟩

/-- while one of the head is left, nothing else may come up -/
def HeadLast (md : Region.Mode) (ops : Array Oper) (done hd : List Nat) : Prop := ∀ t ot, ops[t]? = some ot → t ∈ done ∨ t ∈ hd ∨ ∀ i ∈ hd, dependsOn md ops ops.size t i = true

theorem K_first {hd done : List Nat} {i : Nat} {oi : Oper} {v : Value} {L : Array Bool → Act → Prop} (hi : ops[i]? = some oi) (hsel : ∀ (j : Nat) (o : Oper) cs b, ops[j]? = some o → o.op ≠ .select cs b)
    (hT : HeadLast md ops done hd) (hin : i ∈ hd) (hdone : ∀ listed a, L listed a → ∀ j ∈ Region.ready md ops listed, j ∉ hd) :
    ∀ (f : Nat) (listed : Array Bool) (a : Act), FixInv md ops listed → (∀ t ∈ done, listed.getD t true = true) →
      (∀ j oj, ops[j]? = some oj → j ≠ i → listed.getD j true = false → (∀ e ∈ oj.after, Region.binds md e = true → e.on ≠ i) → oi.apart ops oj = true) →
      i ∈ Region.ready md ops listed → YieldsAt P ops w oi v a →
      wpAnyK P md ops w hd L f (listed.setIfInBounds i true) (a.put oi.dst v) → wpAnyK P md ops w hd L (f + 1) listed a := by
  have tail : ∀ (listed : Array Bool), FixInv md ops listed → (∀ t ∈ done, listed.getD t true = true) → i ∈ Region.ready md ops listed → ∀ j ∈ Region.ready md ops listed, j ∈ hd := by
    intro listed inv hd1 hr j hj
    obtain ⟨hun, oj, hoj, hall⟩ := mem_ready.1 hj
    rcases hT j oj hoj with h | h | h
    · rw [hd1 j h] at hun; cases hun
    · exact h
    · have h1 := dep_listed inv i _ j oj hoj hall (h i hin)
      have h2 := getD_both (mem_ready.1 hr).1
      rw [h2] at h1; cases h1
  intro f
  induction f with
  | zero =>
    intro listed a inv hd1 _ hr hy H
    refine ⟨fun h => (by rw [h] at hr; cases hr), fun j hj => ⟨tail listed inv hd1 hr j hj, ?_⟩⟩
    by_cases hji : j = i
    · subst hji; exact hy.stOp hi H
    · exact absurd (tail listed inv hd1 hr j hj) (hdone _ _ H j (ready_mono hj hji))
  | succ f ih =>
    intro listed a inv hd1 hfree hr hy H
    refine ⟨fun h => (by rw [h] at hr; cases hr), fun j hj => ⟨tail listed inv hd1 hr j hj, ?_⟩⟩
    by_cases hji : j = i
    · subst hji; exact hy.stOp hi H
    · have h1 := (H.2 j (ready_mono hj hji)).2
      obtain ⟨hjun, oj, hoj, hall⟩ := mem_ready.1 hj
      have hun := (mem_ready.1 hr).1
      have hnot : ∀ e ∈ oj.after, Region.binds md e = true → e.on ≠ i := fun e he hb heq => by
        have h1 := hall e he hb
        rw [heq, getD_both hun] at h1
        cases h1
      have h2 := stOp_put hoj (hfree j oj hoj hji hjun hnot) (fun cs b => hsel i oi cs b hi) (fun cs b => hsel j oj cs b hoj) hy h1
      have hfree' : ∀ k ok, ops[k]? = some ok → k ≠ i → (listed.setIfInBounds j true).getD k true = false →
          (∀ e ∈ ok.after, Region.binds md e = true → e.on ≠ i) → oi.apart ops ok = true := fun k ok hk hki hun hno => by
        refine hfree k ok hk hki ?_ hno
        by_cases hjk : j = k
        · subst hjk; exact hjun
        · rw [getD_set_ne true hjk] at hun; exact hun
      have hd2 : ∀ t ∈ done, (listed.setIfInBounds j true).getD t true = true := fun t ht => by
        by_cases hjt : j = t
        · subst hjt
          have := hd1 j ht
          rw [hjun] at this; cases this
        · rw [getD_set_ne true hjt]; exact hd1 t ht
      refine stOp_mono (fun a' h3 => ih (listed.setIfInBounds j true) a' (inv.set hj) hd2 hfree' (ready_mono hr (Ne.symm hji)) h3.1 ?_) h2
      rw [Array.setIfInBounds_comm _ _ hji]
      exact h3.2

def setAll (listed : Array Bool) : List Nat → Array Bool
  | [] => listed
  | i :: r => setAll (listed.setIfInBounds i true) r
/-- each may come up where it stands, and none that may come up before it hangs on it or writes what it reads -/
def orderB (md : Region.Mode) (ops : Array Oper) : List Nat → Array Bool → Bool
  | [], _ => true
  | i :: r, listed => (Region.ready md ops listed).contains i && Region.free md ops listed i && orderB md ops r (listed.setIfInBounds i true)
def forcedB (md : Region.Mode) (ops : Array Oper) : List Nat → Array Bool → Bool
  | [], listed => (Region.ready md ops listed).isEmpty
  | i :: r, listed => decide (Region.ready md ops listed = [i]) && forcedB md ops r (listed.setIfInBounds i true)

def opsOf (ops : Array Oper) : List Nat → List Oper
  | [] => []
  | i :: r => match ops[i]? with | some o => o :: opsOf ops r | none => opsOf ops r

theorem opsOf_cons {i : Nat} {r : List Nat} {o : Oper} (h : ops[i]? = some o) : opsOf ops (i :: r) = o :: opsOf ops r := by simp [opsOf, h]

theorem K_list {hd done : List Nat} {Lq : Act → Prop} {fin : Array Bool} (hsel : Region.noSelect ops = true) (hT : HeadLast md ops done hd) (hfin : ∀ j ∈ Region.ready md ops fin, j ∉ hd) :
    ∀ (p : List Nat) (listed : Array Bool) (a : Act), (∀ i ∈ p, i ∈ hd) → setAll listed p = fin → FixInv md ops listed → (∀ t ∈ done, listed.getD t true = true) → orderB md ops p listed = true → wpStill P ops w Lq (opsOf ops p) a →
      wpAnyK P md ops w hd (fun listed' a' => listed' = fin ∧ Lq a') p.length listed a
  | [], listed, a, _, hs, _, _, _, h => ⟨hs, h⟩
  | i :: r, listed, a, hin, hs, inv, hd1, hB, h => by
    simp only [orderB, Bool.and_eq_true] at hB
    obtain ⟨⟨hr, hf⟩, hB'⟩ := hB
    have hr' : i ∈ Region.ready md ops listed := by simpa using hr
    obtain ⟨hun, oi, hoi, _⟩ := mem_ready.1 hr'
    rw [opsOf_cons hoi] at h
    have hst : stOp P ops w i (wpStill P ops w Lq (opsOf ops r)) a := by unfold stOp; simp only [hoi]; exact h
    obtain ⟨v, hy, hK⟩ := yieldsAt_of_stOp hoi hst
    refine K_first hoi (Region.noSelect_spec hsel) hT (hin i (.head _)) (fun listed' a' (hL : listed' = fin ∧ Lq a') j hj => hfin j (hL.1 ▸ hj)) r.length listed a inv hd1 (Region.free_spec hoi hf) hr' hy
      (K_list hsel hT hfin r _ _ (fun j hj => hin j (.tail _ hj)) hs (inv.set hr') (fun t ht => ?_) hB' hK)
    by_cases hit : i = t
    · subst hit
      have := hd1 i ht
      rw [hun] at this; cases this
    · rw [getD_set_ne true hit]; exact hd1 t ht

theorem any_of_forced {Q : Exit → Act → World → Prop} : ∀ (p : List Nat) (listed : Array Bool) (a : Act) (w : World), forcedB md ops p listed = true → wpList P ops Q (opsOf ops p) a w → wpAny P md ops Q p.length listed a w
  | [], _, _, _, hB, h => ⟨by simpa [forcedB] using hB, h⟩
  | i :: r, listed, a, w, hB, h => by
    simp only [forcedB, Bool.and_eq_true, decide_eq_true_eq] at hB
    have hir : i ∈ Region.ready md ops listed := by rw [hB.1]; exact .head _
    obtain ⟨_, oi, hoi, _⟩ := mem_ready.1 hir
    rw [opsOf_cons hoi] at h
    refine ⟨fun h1 => (by rw [hB.1] at h1; cases h1), fun j hj => ?_⟩
    rw [hB.1] at hj
    have hji : j = i := by simpa using hj
    subst hji
    have hw : wpOp P ops Q j (wpList P ops Q (opsOf ops r)) a w := by unfold wpOp; simp only [hoi]; exact h
    exact wpOp_mono (fun a' w' h' => any_of_forced r _ a' w' hB.2 h') hw

/-- what yields in whatever world -/
def wpPure (P : Program) (ops : Array Oper) (K : Act → Prop) : List Oper → Act → Prop
  | [], a => K a
  | o :: rest, a => ∃ v, Yields P ops o v a ∧ wpPure P ops K rest (a.put o.dst v)

theorem wpPure_nil {K : Act → Prop} {a : Act} (h : K a) : wpPure P ops K [] a := h
theorem wpPure_step {K : Act → Prop} {a : Act} {o : Oper} {rest : List Oper} (v : Value) (hg : o.guard = none) (hv : ∀ w, (execOp a.eval o).run P w = .ok (.value v) w) (h : wpPure P ops K rest (a.put o.dst v)) : wpPure P ops K (o :: rest) a :=
  ⟨v, .inl ⟨by simp [Region.wanted, hg], hv⟩, h⟩

theorem any_of_pure {Q : Exit → Act → World → Prop} {K : Act → Prop} {g : Nat} {fin : Array Bool} (hsel : Region.noSelect ops = true) (hQ : ∀ dst v c a w, Q (.panic c) (Act.put a dst v) w → Q (.panic c) a w) (hK : ∀ a, K a → wpAny P md ops Q g fin a w) :
    ∀ (p : List Nat) (listed : Array Bool) (a : Act), setAll listed p = fin → orderB md ops p listed = true → wpPure P ops K (opsOf ops p) a → wpAny P md ops Q (p.length + g) listed a w
  | [], listed, a, hs, _, h => by
    have hs' : listed = fin := hs
    rw [List.length_nil, Nat.zero_add, hs']; exact hK a h
  | i :: r, listed, a, hs, hB, h => by
    simp only [orderB, Bool.and_eq_true] at hB
    obtain ⟨⟨hr, hf⟩, hB'⟩ := hB
    have hr' : i ∈ Region.ready md ops listed := by simpa using hr
    obtain ⟨_, oi, hoi, _⟩ := mem_ready.1 hr'
    rw [opsOf_cons hoi] at h
    obtain ⟨v, hy, h'⟩ := h
    rw [List.length_cons, show r.length + 1 + g = (r.length + g) + 1 by omega]
    exact wpAny_take hoi hsel hf hr (fun c a w h => hQ oi.dst v c a w h) hy (any_of_pure hsel hQ hK r _ _ hs hB' h')

theorem inv_all : ∀ (p : List Nat) (listed : Array Bool), FixInv md ops listed → orderB md ops p listed = true → FixInv md ops (setAll listed p)
  | [], _, inv, _ => inv
  | i :: r, listed, inv, hB => by
    simp only [orderB, Bool.and_eq_true] at hB
    exact inv_all r _ (inv.set (by simpa using hB.1.1)) hB.2

/-- the kernel's look: the three parts are an order of the region, and it may be taken for all of them -/
def fixB (md : Region.Mode) (ops : Array Oper) (p1 p2 p3 : List Nat) : Bool :=
  let L0 := Array.replicate ops.size false
  let L1 := setAll L0 p1
  let L2 := setAll L1 p2
  Region.noSelect ops && orderB md ops p1 L0 && orderB md ops p2 L1 && (p1.all fun t => L1.getD t true) &&
    ((List.range ops.size).all fun t => p1.contains t || p2.contains t || p2.all fun i => dependsOn md ops ops.size t i) &&
    ((Region.ready md ops L2).all fun j => !p2.contains j) && forcedB md ops p3 L2 && decide (p1.length + (p2.length + p3.length) = ops.size)

theorem region_fix {id : Nat} {Q : Exit → Act → World → Prop} {a : Act} {l : List Oper} (p1 p2 p3 : List Nat) (hm : P.follows .mixedOrders = true) (hQ : ∀ dst v c a w, Q (.panic c) (Act.put a dst v) w → Q (.panic c) a w)
    (hB : fixB .any l.toArray p1 p2 p3 = true)
    (h : wpPure P l.toArray (fun a1 => wpStill P l.toArray w.drew (fun a2 => wpList P l.toArray Q (opsOf l.toArray p3) a2 w.drew) (opsOf l.toArray p2) a1) (opsOf l.toArray p1) a) :
    (Code.region id l.toArray true).wp P Q a w := by
  simp only [fixB, Bool.and_eq_true, decide_eq_true_eq] at hB
  obtain ⟨⟨⟨⟨⟨⟨⟨hsel, h1⟩, h2⟩, h3⟩, h4⟩, h5⟩, h6⟩, h7⟩ := hB
  have inv0 : FixInv .any l.toArray (Array.replicate l.toArray.size false) := ⟨by simp, fun j oj _ hl => (by rw [getD_replicate_false] at hl; cases hl)⟩
  refine wp_region_any hm ?_
  show wpAny P .any l.toArray Q l.toArray.size (Array.replicate l.toArray.size false) a w.drew
  suffices key : wpAny P .any l.toArray Q (p1.length + (p2.length + p3.length)) (Array.replicate l.toArray.size false) a w.drew by rw [h7] at key; exact key
  refine any_of_pure hsel hQ (fun a1 ha1 => ?_) p1 _ a rfl h1 h
  refine wpAny_of_K (hd := p2) (L := fun listed' a' => listed' = setAll (setAll (Array.replicate l.toArray.size false) p1) p2 ∧ wpList P l.toArray Q (opsOf l.toArray p3) a' w.drew) (fun listed a' hL => ?_) p2.length _ a1 ?_
  · obtain ⟨rfl, hL⟩ := hL
    exact any_of_forced p3 _ a' _ h6 hL
  · refine K_list (done := p1) hsel (fun t ot ht => ?_) (fun j hj => ?_) p2 _ a1 (fun i hi => hi) rfl (inv_all p1 _ inv0 h1) (fun t ht => ?_) h2 ha1
    · have := List.all_eq_true.1 h4 t (List.mem_range.2 (Array.getElem?_eq_some_iff.1 ht).1)
      simp only [Bool.or_eq_true, List.all_eq_true, List.contains_iff_mem] at this
      rcases this with (h | h) | h
      · exact .inl h
      · exact .inr (.inl h)
      · exact .inr (.inr h)
    · have := List.all_eq_true.1 h5 j hj
      simpa using this
    · exact List.all_eq_true.1 h3 t ht

end
end Go.Proofs.Ytefigjdebakccaa

namespace Go.Proofs.Ytefigjdebakccaa

section
variable {P : Program} {ops : Array Oper} {md : Region.Mode} {w : World}

theorem dependsOn_succ (i : Nat) : ∀ (f t : Nat), dependsOn md ops f t i = true → dependsOn md ops (f + 1) t i = true
  | 0, _, h => by simp [dependsOn] at h
  | f + 1, t, h => by
    unfold dependsOn at h ⊢
    cases ho : ops[t]? with
    | none => rw [ho] at h; cases h
    | some o =>
      rw [ho] at h
      simp only at h ⊢
      obtain ⟨e, he, h2⟩ := Array.any_eq_true'.1 h
      refine Array.any_eq_true'.2 ⟨e, he, ?_⟩
      simp only [Bool.and_eq_true, Bool.or_eq_true, beq_iff_eq] at h2 ⊢
      exact ⟨h2.1, h2.2.imp id (dependsOn_succ i f e.on)⟩
theorem dependsOn_mono (i t : Nat) {f g : Nat} (hfg : f ≤ g) (h : dependsOn md ops f t i = true) : dependsOn md ops g t i = true := by
  induction g with
  | zero => have : f = 0 := by omega
            subst this; exact h
  | succ g ih =>
    rcases Nat.lt_or_ge g f with h1 | h1
    · have : f = g + 1 := by omega
      subst this; exact h
    · exact dependsOn_succ i g t (ih h1)

/-- what an operation waits for, as a number's bits -/
def maskOf (md : Region.Mode) (acc : List Nat) (o : Oper) : Nat := o.after.toList.foldl (fun m e => if Region.binds md e then (m ||| 2 ^ e.on) ||| acc.getD e.on 0 else m) 0
def masksL (md : Region.Mode) : List Oper → List Nat → List Nat
  | [], acc => acc
  | o :: l, acc => masksL md l (acc ++ [maskOf md acc o])

theorem maskOf_spec {acc : List Nat} {o : Oper} {i : Nat} (h : (maskOf md acc o).testBit i = true) : ∃ e ∈ o.after, Region.binds md e = true ∧ (e.on = i ∨ (acc.getD e.on 0).testBit i = true) := by
  have gen : ∀ (l : List Edge) (m : Nat), (l.foldl (fun m e => if Region.binds md e then (m ||| 2 ^ e.on) ||| acc.getD e.on 0 else m) m).testBit i = true → m.testBit i = true ∨ ∃ e ∈ l, Region.binds md e = true ∧ (e.on = i ∨ (acc.getD e.on 0).testBit i = true) := by
    intro l
    induction l with
    | nil => intro m h; exact .inl h
    | cons e l ih =>
      intro m h
      rw [List.foldl_cons] at h
      rcases ih _ h with h1 | ⟨e', he', h2⟩
      · by_cases hb : Region.binds md e = true
        · rw [if_pos hb, Nat.testBit_or, Nat.testBit_or, Bool.or_eq_true, Bool.or_eq_true, Nat.testBit_two_pow] at h1
          rcases h1 with (h1 | h1) | h1
          · exact .inl h1
          · exact .inr ⟨e, .head _, hb, .inl (by simpa using h1)⟩
          · exact .inr ⟨e, .head _, hb, .inr h1⟩
        · rw [if_neg hb] at h1
          exact .inl h1
      · exact .inr ⟨e', .tail _ he', h2⟩
  rcases gen o.after.toList 0 h with h1 | ⟨e, he, h2⟩
  · simp at h1
  · exact ⟨e, by simpa using he, h2⟩

theorem masksL_sound : ∀ (l : List Oper) (acc : List Nat), (∀ j, l[j]? = ops[acc.length + j]?) → (∀ t i, (acc.getD t 0).testBit i = true → dependsOn md ops (t + 1) t i = true) →
    ∀ t i, ((masksL md l acc).getD t 0).testBit i = true → dependsOn md ops (t + 1) t i = true
  | [], acc, _, ha => ha
  | o :: l, acc, hl, ha => by
    have h0 : ops[acc.length]? = some o := by simpa using (hl 0).symm
    refine masksL_sound l (acc ++ [maskOf md acc o]) (fun j => by have := hl (j + 1); simpa [Nat.add_assoc, Nat.add_comm 1 j] using this) (fun t i ht => ?_)
    rcases Nat.lt_trichotomy t acc.length with h | h | h
    · refine ha t i ?_
      rw [List.getD_eq_getElem?_getD, List.getElem?_append_left h] at ht
      rw [List.getD_eq_getElem?_getD]; exact ht
    · subst h
      rw [List.getD_eq_getElem?_getD, List.getElem?_append_right (Nat.le_refl _)] at ht
      simp only [Nat.sub_self, List.getElem?_cons_zero, Option.getD_some] at ht
      obtain ⟨e, he, hb, h2⟩ := maskOf_spec ht
      unfold dependsOn
      rw [h0]
      refine Array.any_eq_true'.2 ⟨e, he, ?_⟩
      simp only [Bool.and_eq_true, Bool.or_eq_true, beq_iff_eq]
      refine ⟨hb, h2.imp id fun h3 => ?_⟩
      have hlt : e.on < acc.length := by
        rcases Nat.lt_or_ge e.on acc.length with h | h
        · exact h
        · rw [List.getD_eq_getElem?_getD, List.getElem?_eq_none h] at h3; simp at h3
      exact dependsOn_mono i e.on (by omega) (ha e.on i h3)
    · rw [List.getD_eq_getElem?_getD, List.getElem?_eq_none (by simp; omega)] at ht
      simp at ht

theorem masks_dep {t i : Nat} (h : ((masksL md ops.toList []).getD t 0).testBit i = true) (ht : t < ops.size) : dependsOn md ops ops.size t i = true :=
  dependsOn_mono i t (by omega) (masksL_sound (ops := ops) ops.toList [] (fun j => by simp) (fun t i h => by simp at h) t i h)

def bitsOf : List Nat → Nat
  | [] => 0
  | i :: r => 2 ^ i ||| bitsOf r
theorem bitsOf_spec {m : Nat} : ∀ {p : List Nat}, m &&& bitsOf p = bitsOf p → ∀ i ∈ p, m.testBit i = true := by
  intro p h i hi
  have hb : (bitsOf p).testBit i = true := by
    clear h
    induction p with
    | nil => cases hi
    | cons j r ih =>
      simp only [bitsOf, Nat.testBit_or, Nat.testBit_two_pow, Bool.or_eq_true, decide_eq_true_eq]
      rcases List.mem_cons.1 hi with h | h
      · exact .inl h.symm
      · exact .inr (ih h)
  rw [← h, Nat.testBit_and, Bool.and_eq_true] at hb
  exact hb.1

def wpSegs (P : Program) (ops : Array Oper) (Q : Exit → Act → World → Prop) : List (List Nat × Nat) → List Nat → Act → World → Prop
  | [], tail, a, w => wpList P ops Q (opsOf ops tail) a w
  | (p, c) :: rest, tail, a, w => wpStill P ops w (fun a2 => wpOp P ops Q c (wpSegs P ops Q rest tail) a2 w) (opsOf ops p) a

def segsB (md : Region.Mode) (ops : Array Oper) : List (List Nat × Nat) → List Nat → List Nat → Array Bool → Bool
  | [], tail, _, listed => forcedB md ops tail listed
  | (p, c) :: rest, tail, done, listed =>
    orderB md ops p listed && (done.all fun t => listed.getD t true) &&
    ((List.range ops.size).all fun t => done.contains t || p.contains t || decide ((masksL md ops.toList []).getD t 0 &&& bitsOf p = bitsOf p)) &&
    decide (Region.ready md ops (setAll listed p) = [c]) && !p.contains c && segsB md ops rest tail (done ++ p ++ [c]) ((setAll listed p).setIfInBounds c true)

def segsFuel : List (List Nat × Nat) → List Nat → Nat
  | [], tail => tail.length
  | (p, _) :: rest, tail => p.length + (segsFuel rest tail + 1)

theorem any_of_segs {Q : Exit → Act → World → Prop} (hsel : Region.noSelect ops = true) : ∀ (segs : List (List Nat × Nat)) (tail done : List Nat) (listed : Array Bool) (a : Act) (w : World), FixInv md ops listed → segsB md ops segs tail done listed = true →
    wpSegs P ops Q segs tail a w → wpAny P md ops Q (segsFuel segs tail) listed a w
  | [], tail, done, listed, a, w, inv, hB, h => any_of_forced tail listed a w hB h
  | (p, c) :: rest, tail, done, listed, a, w, inv, hB, h => by
    simp only [segsB, Bool.and_eq_true, decide_eq_true_eq] at hB
    obtain ⟨⟨⟨⟨⟨h1, h2⟩, h3⟩, h4⟩, h5⟩, h6⟩ := hB
    have inv2 := inv_all p listed inv h1
    have hc : c ∈ Region.ready md ops (setAll listed p) := by rw [h4]; exact .head _
    refine wpAny_of_K (hd := p) (L := fun listed' a' => listed' = setAll listed p ∧ wpOp P ops Q c (wpSegs P ops Q rest tail) a' w) (fun listed' a' hL => ?_) p.length listed a ?_
    · obtain ⟨rfl, hL⟩ := hL
      refine ⟨fun h0 => (by rw [h4] at h0; cases h0), fun i hi => ?_⟩
      rw [h4] at hi
      have hic : i = c := by simpa using hi
      subst hic
      exact wpOp_mono (fun a' w' h' => any_of_segs hsel rest tail _ _ a' w' (inv2.set hc) h6 h') hL
    · refine K_list (done := done) hsel (fun t ot ht => ?_) (fun j hj => ?_) p listed a (fun i hi => hi) rfl inv (fun t ht => List.all_eq_true.1 h2 t ht) h1 h
      · have := List.all_eq_true.1 h3 t (List.mem_range.2 (Array.getElem?_eq_some_iff.1 ht).1)
        simp only [Bool.or_eq_true, List.contains_iff_mem, decide_eq_true_eq] at this
        rcases this with (h | h) | h
        · exact .inl h
        · exact .inr (.inl h)
        · exact .inr (.inr fun i hi => masks_dep (bitsOf_spec h i hi) (Array.getElem?_eq_some_iff.1 ht).1)
      · rw [h4] at hj
        have hjc : j = c := by simpa using hj
        subst hjc
        simpa using h5

theorem region_segs {id : Nat} {Q : Exit → Act → World → Prop} {a : Act} {l : List Oper} (segs : List (List Nat × Nat)) (tail : List Nat) (hm : P.follows .mixedOrders = true)
    (hB : (Region.noSelect l.toArray && segsB .any l.toArray segs tail [] (Array.replicate l.toArray.size false) && decide (segsFuel segs tail = l.toArray.size)) = true)
    (h : wpSegs P l.toArray Q segs tail a w.drew) : (Code.region id l.toArray true).wp P Q a w := by
  simp only [Bool.and_eq_true, decide_eq_true_eq] at hB
  obtain ⟨⟨hsel, hB⟩, hf⟩ := hB
  have inv0 : FixInv .any l.toArray (Array.replicate l.toArray.size false) := ⟨by simp, fun j oj _ hl => (by rw [getD_replicate_false] at hl; cases hl)⟩
  refine wp_region_any hm ?_
  show wpAny P .any l.toArray Q l.toArray.size (Array.replicate l.toArray.size false) a w.drew
  have key := any_of_segs (md := .any) hsel segs tail [] _ a _ inv0 hB h
  rw [hf] at key
  exact key

theorem seg_call {Q : Exit → Act → World → Prop} {K : Act → World → Prop} {a : Act} {i : Nat} {o : Oper} {f : FuncId} {args : Array Value} (hi : ops[i]? = some o) (hw : Region.wanted o (yielded ops a.tmps) = true)
    (hx : (execOp a.eval o).run P w = .ok (.enter f args) w) (hc : Calls P f args w fun e w'' => ∃ v, e = .returned v ∧ K (a.put o.dst v) w'') : wpOp P ops Q i K a w := by
  unfold wpOp
  simp only [hi, hw, if_true]
  left
  unfold Oper.wp
  rw [hx, Oper.upon_enter]
  refine hc.mono ?_
  rintro e w'' ⟨v, rfl, h⟩
  exact h
/-- one operation, what comes behind it veiled -/
theorem seg_step {Q : Exit → Act → World → Prop} {K : Act → World → Prop} {a : Act} {i : Nat} {o : Oper} (hi : ops[i]? = some o)
    (h : ∀ K' : Act → World → Prop, (∀ a w, K a w → K' a w) → if Region.wanted o (yielded ops a.tmps) then o.wp P a w K' Q else K' (a.put o.dst undef) w) : wpOp P ops Q i K a w := by
  have h1 := h K (fun _ _ h => h)
  unfold wpOp
  simp only [hi]
  by_cases hw : Region.wanted o (yielded ops a.tmps) = true
  · rw [if_pos hw] at h1 ⊢
    exact .inl h1
  · rw [if_neg hw] at h1 ⊢
    exact h1
theorem seg_skip {Q : Exit → Act → World → Prop} {K : Act → World → Prop} {a : Act} {i : Nat} {o : Oper} (hi : ops[i]? = some o) (hw : Region.wanted o (yielded ops a.tmps) = false) (h : K (a.put o.dst undef) w) : wpOp P ops Q i K a w := by
  unfold wpOp
  simp only [hi, hw]
  exact h

end
end Go.Proofs.Ytefigjdebakccaa

namespace Go.Proofs.Ytefigjdebakccaa

structure Veil (p : Prop) : Prop where
  out : p

section
variable {P : Program} {ops : Array Oper} {w : World}

theorem v_step {Q : Act → Prop} {a : Act} {o : Oper} {rest : List Oper}
    (h : ∀ K : Act → Prop, (∀ a, Veil (wpStill P ops w Q rest a) → K a) → if Region.wanted o (yielded ops a.tmps) then o.still P a w K else K (a.put o.dst undef)) : Veil (wpStill P ops w Q (o :: rest) a) :=
  ⟨wpStill_step fun K hK => h K fun a ha => hK a ha.out⟩
theorem v_nil {Q : Act → Prop} {a : Act} (h : Veil (Q a)) : Veil (wpStill P ops w Q [] a) := ⟨h.out⟩
theorem v_seg {Q : Exit → Act → World → Prop} {K : Act → World → Prop} {a : Act} {i : Nat} {o : Oper} (hi : ops[i]? = some o)
    (h : ∀ K' : Act → World → Prop, (∀ a w, Veil (K a w) → K' a w) → if Region.wanted o (yielded ops a.tmps) then o.wp P a w K' Q else K' (a.put o.dst undef) w) : Veil (wpOp P ops Q i K a w) :=
  ⟨seg_step hi fun K' hK' => h K' fun a w ha => hK' a w ha.out⟩
theorem v_segs {Q : Exit → Act → World → Prop} {p : List Nat} {c : Nat} {rest : List (List Nat × Nat)} {tail : List Nat} {a : Act} (h : Veil (wpStill P ops w (fun a2 => wpOp P ops Q c (wpSegs P ops Q rest tail) a2 w) (opsOf ops p) a)) :
    Veil (wpSegs P ops Q ((p, c) :: rest) tail a w) := ⟨h.out⟩
theorem v_tail {Q : Exit → Act → World → Prop} {tail : List Nat} {a : Act} (h : wpList P ops Q (opsOf ops tail) a w) : Veil (wpSegs P ops Q [] tail a w) := ⟨h⟩
end
end Go.Proofs.Ytefigjdebakccaa

namespace Go.Proofs.Ytefigjdebakccaa

section
variable {P : Program} {ops : Array Oper} {md : Region.Mode} {Q : Exit → Act → World → Prop} {R : World → Prop}

/-- any order, and behind each operation the world is one of R -/
def wpAnyR (P : Program) (md : Region.Mode) (ops : Array Oper) (Q : Exit → Act → World → Prop) (R : World → Prop) : Nat → Array Bool → Act → World → Prop
  | 0, listed, a, w => Region.ready md ops listed = [] ∧ Q .normal a w
  | f + 1, listed, a, w => (Region.ready md ops listed = [] → Q .normal a w) ∧ ∀ i ∈ Region.ready md ops listed, wpOp P ops Q i (fun a' w' => R w' ∧ wpAnyR P md ops Q R f (listed.setIfInBounds i true) a' w') a w

theorem any_of_R : ∀ (f : Nat) (listed : Array Bool) (a : Act) (w : World), wpAnyR P md ops Q R f listed a w → wpAny P md ops Q f listed a w
  | 0, _, _, _, h => h
  | f + 1, _, _, _, h => ⟨h.1, fun i hi => wpOp_mono (fun a' w' h' => any_of_R f _ a' w' h'.2) (h.2 i hi)⟩

/-- it yields v in every world of R -/
def YR (P : Program) (ops : Array Oper) (R : World → Prop) (o : Oper) (v : Value) (a : Act) : Prop :=
  (Region.wanted o (yielded ops a.tmps) = true ∧ ∀ w, R w → (execOp a.eval o).run P w = .ok (.value v) w) ∨ (Region.wanted o (yielded ops a.tmps) = false ∧ v = undef)

theorem YR.of_same {o : Oper} {v : Value} {a a' : Act} (hy : YR P ops R o v a) (he : execOp a'.eval o = execOp a.eval o) (hw : Region.wanted o (yielded ops a'.tmps) = Region.wanted o (yielded ops a.tmps)) : YR P ops R o v a' := by
  unfold YR at *
  rw [he, hw]
  exact hy
theorem YR.wpOp {i : Nat} {o : Oper} {v : Value} {a : Act} {w : World} (hi : ops[i]? = some o) (hy : YR P ops R o v a) (hR : R w) {K : Act → World → Prop} (h : K (a.put o.dst v) w) : wpOp P ops Q i K a w := by
  unfold Go.wpOp
  simp only [hi]
  rcases hy with ⟨hw, hv⟩ | ⟨hw, rfl⟩
  · rw [if_pos hw]
    left
    unfold Oper.wp
    rw [hv w hR]
    exact h
  · simp only [hw, Bool.false_eq_true, if_false]
    exact h

/-- what an operation's own place says nothing of stays true behind it -/
theorem wpOp_keep {j : Nat} {oj : Oper} {E : Act → Prop} (hj : ops[j]? = some oj) (hput : ∀ a u, E a → E (a.put oj.dst u)) (hdef : ∀ (a : Act) d, E a → E { a with defers := d :: a.defers }) {K : Act → World → Prop} {a : Act} {w : World}
    (hE : E a) (h : wpOp P ops Q j K a w) : wpOp P ops Q j (fun a' w' => E a' ∧ K a' w') a w := by
  unfold wpOp at *
  simp only [hj] at *
  by_cases hw : Region.wanted oj (yielded ops a.tmps) = true
  · simp only [hw, if_true] at h ⊢
    refine h.imp (fun h => ?_) id
    unfold Oper.wp at *
    generalize (execOp a.eval oj).run P w = r at *
    cases r with
    | halt x w' => cases x <;> simp only [Oper.upon] at h ⊢ <;> exact h
    | ok n w' =>
      cases n <;> simp only [Oper.upon] at h ⊢
      case value u => exact ⟨hput _ _ hE, h⟩
      case skip => exact ⟨hput _ _ hE, h⟩
      case defer d => exact ⟨hput _ _ (hdef _ _ hE), h⟩
      case enter f args =>
        refine Calls.mono h fun e w'' he => ?_
        cases e with
        | returned u => exact ⟨hput _ _ hE, he⟩
        | panicked c => exact he
        | outgrown => exact he
      case row row args => exact Rows.mono h fun u w'' he => ⟨hput _ _ hE, he⟩
  · simp only [hw] at h ⊢
    exact ⟨hput _ _ hE, h⟩

theorem apart_fake {oi oj : Oper} {v : Value} (h : oi.apart ops oj = true) : Oper.apart ops { oi with op := .move (.const v), guard := none } oj = true := by
  obtain ⟨h1, h2, _⟩ := Oper.apart_spec h
  unfold Oper.apart
  rw [Bool.and_eq_true]
  constructor
  · cases hd : oi.dst with
    | none => rfl
    | some d =>
      simp only [Bool.and_eq_true, Bool.not_eq_true', bne_iff_ne, ne_eq]
      exact ⟨by simpa using h1 d hd, h2 d hd⟩
  · cases oj.dst with
    | none => rfl
    | some d => simp [Oper.looksAt, Op.operands]

/-- a value that is put may be put behind -/
theorem wpOp_swap {j : Nat} {oi oj : Oper} {v : Value} (hj : ops[j]? = some oj) (hap : oi.apart ops oj = true) (hsj : ∀ cs b, oj.op ≠ .select cs b) (hQ : ∀ c a w, Q (.panic c) (a.put oi.dst v) w → Q (.panic c) a w)
    {K : Act → World → Prop} {a : Act} {w : World} (h : wpOp P ops Q j K (a.put oi.dst v) w) : wpOp P ops Q j (fun a' w' => K (a'.put oi.dst v) w') a w :=
  wpOp_mono (fun _ _ h => h.2) (wpOp_put (oi := { oi with op := .move (.const v), guard := none }) hj (apart_fake hap) (fun _ _ h => by cases h) hsj hQ (.inl ⟨rfl, fun w => rfl⟩) h)

theorem first_R {i : Nat} {oi : Oper} {v : Value} (hi : ops[i]? = some oi) (hsel : ∀ (j : Nat) (o : Oper) cs b, ops[j]? = some o → o.op ≠ .select cs b) (hQ : ∀ c a w, Q (.panic c) (a.put oi.dst v) w → Q (.panic c) a w) :
    ∀ (f : Nat) (listed : Array Bool) (a : Act) (w : World),
      (∀ j oj, ops[j]? = some oj → j ≠ i → listed.getD j true = false → (∀ e ∈ oj.after, Region.binds md e = true → e.on ≠ i) → oi.apart ops oj = true) →
      i ∈ Region.ready md ops listed → YR P ops R oi v a → R w → wpAnyR P md ops Q R f (listed.setIfInBounds i true) (a.put oi.dst v) w → wpAnyR P md ops Q R (f + 1) listed a w := by
  intro f
  induction f with
  | zero =>
    intro listed a w _ hr hy hR H
    refine ⟨fun h => (by rw [h] at hr; cases hr), fun j hj => ?_⟩
    by_cases hji : j = i
    · subst hji; exact hy.wpOp hi hR ⟨hR, H⟩
    · have := ready_mono hj hji
      rw [H.1] at this
      cases this
  | succ f ih =>
    intro listed a w hfree hr hy hR H
    refine ⟨fun h => (by rw [h] at hr; cases hr), fun j hj => ?_⟩
    by_cases hji : j = i
    · subst hji; exact hy.wpOp hi hR ⟨hR, H⟩
    · have h1 := H.2 j (ready_mono hj hji)
      obtain ⟨hjun, oj, hoj, hall⟩ := mem_ready.1 hj
      have hnot : ∀ e ∈ oj.after, Region.binds md e = true → e.on ≠ i := fun e he hb heq => by
        have h1 := hall e he hb
        rw [heq, getD_both (mem_ready.1 hr).1] at h1
        cases h1
      have hap := hfree j oj hoj hji hjun hnot
      obtain ⟨_, _, h3⟩ := Oper.apart_spec hap
      have h2 := wpOp_swap hoj hap (fun cs b => hsel j oj cs b hoj) hQ h1
      have h4 := wpOp_keep (E := YR P ops R oi v) hoj (fun a u h => h.of_same (execOp_put oi (fun cs b => hsel i oi cs b hi) a oj.dst u h3) (wanted_put oi a oj.dst u h3)) (fun a d h => h.of_same rfl rfl) hy h2
      have hfree' : ∀ k ok, ops[k]? = some ok → k ≠ i → (listed.setIfInBounds j true).getD k true = false →
          (∀ e ∈ ok.after, Region.binds md e = true → e.on ≠ i) → oi.apart ops ok = true := fun k ok hk hki hun hno => by
        refine hfree k ok hk hki ?_ hno
        by_cases hjk : j = k
        · subst hjk; exact hjun
        · rw [getD_set_ne true hjk] at hun; exact hun
      refine wpOp_mono (fun a' w' h5 => ⟨h5.2.1, ih (listed.setIfInBounds j true) a' w' hfree' (ready_mono hr (Ne.symm hji)) h5.1 h5.2.1 ?_⟩) h4
      rw [Array.setIfInBounds_comm _ _ hji]
      exact h5.2.2

/-- what yields in every world of R, one behind the other -/
def wpReads (P : Program) (ops : Array Oper) (R : World → Prop) (K : Act → Prop) : List Oper → Act → Prop
  | [], a => K a
  | o :: rest, a => ∃ v, YR P ops R o v a ∧ wpReads P ops R K rest (a.put o.dst v)

theorem any_of_reads {K : Act → Prop} {g : Nat} {fin : Array Bool} {w : World} (hsel : Region.noSelect ops = true) (hQ : ∀ dst v c a w, Q (.panic c) (Act.put a dst v) w → Q (.panic c) a w) (hR : R w) (hK : ∀ a, K a → wpAnyR P md ops Q R g fin a w) :
    ∀ (p : List Nat) (listed : Array Bool) (a : Act), setAll listed p = fin → orderB md ops p listed = true → wpReads P ops R K (opsOf ops p) a → wpAnyR P md ops Q R (p.length + g) listed a w
  | [], listed, a, hs, _, h => by
    have hs' : listed = fin := hs
    rw [List.length_nil, Nat.zero_add, hs']; exact hK a h
  | i :: r, listed, a, hs, hB, h => by
    simp only [orderB, Bool.and_eq_true] at hB
    obtain ⟨⟨hr, hf⟩, hB'⟩ := hB
    have hr' : i ∈ Region.ready md ops listed := by simpa using hr
    obtain ⟨_, oi, hoi, _⟩ := mem_ready.1 hr'
    rw [opsOf_cons hoi] at h
    obtain ⟨v, hy, h'⟩ := h
    rw [List.length_cons, show r.length + 1 + g = (r.length + g) + 1 by omega]
    exact first_R hoi (Region.noSelect_spec hsel) (fun c a w h => hQ oi.dst v c a w h) _ _ _ _ (Region.free_spec hoi hf) hr' hy hR (any_of_reads hsel hQ hR hK r _ _ hs hB' h')

/-- segments: reads, then one operation, or two in either order -/
def wpSegsR (P : Program) (ops : Array Oper) (Q : Exit → Act → World → Prop) (R : World → Prop) : List (List Nat × List Nat) → Act → World → Prop
  | [], a, w => Q .normal a w
  | (p, cs) :: rest, a, w => wpReads P ops R (fun a2 => match cs with
      | [c] => wpOp P ops Q c (fun a' w' => R w' ∧ wpSegsR P ops Q R rest a' w') a2 w
      | [c, d] => wpOp P ops Q c (fun a' w' => R w' ∧ wpOp P ops Q d (fun a'' w'' => R w'' ∧ wpSegsR P ops Q R rest a'' w'') a' w') a2 w ∧
          wpOp P ops Q d (fun a' w' => R w' ∧ wpOp P ops Q c (fun a'' w'' => R w'' ∧ wpSegsR P ops Q R rest a'' w'') a' w') a2 w
      | _ => False) (opsOf ops p) a

def segsRB (md : Region.Mode) (ops : Array Oper) : List (List Nat × List Nat) → Array Bool → Bool
  | [], listed => (Region.ready md ops listed).isEmpty
  | (p, cs) :: rest, listed => orderB md ops p listed && match cs with
      | [c] => decide (Region.ready md ops (setAll listed p) = [c]) && segsRB md ops rest ((setAll listed p).setIfInBounds c true)
      | [c, d] => decide (Region.ready md ops (setAll listed p) = [c, d]) && decide (Region.ready md ops ((setAll listed p).setIfInBounds c true) = [d]) && decide (Region.ready md ops ((setAll listed p).setIfInBounds d true) = [c]) &&
          decide (c ≠ d) && segsRB md ops rest (((setAll listed p).setIfInBounds c true).setIfInBounds d true)
      | _ => false

def segsRFuel : List (List Nat × List Nat) → Nat
  | [] => 0
  | (p, cs) :: rest => p.length + (cs.length + segsRFuel rest)

theorem anyR_one {c f : Nat} {listed : Array Bool} {a : Act} {w : World} (h : Region.ready md ops listed = [c]) (hc : wpOp P ops Q c (fun a' w' => R w' ∧ wpAnyR P md ops Q R f (listed.setIfInBounds c true) a' w') a w) : wpAnyR P md ops Q R (f + 1) listed a w := by
  refine ⟨fun h0 => (by rw [h] at h0; cases h0), fun i hi => ?_⟩
  rw [h] at hi
  obtain rfl : i = c := by simpa using hi
  exact hc

theorem any_of_segsR (hsel : Region.noSelect ops = true) (hQ : ∀ dst v c a w, Q (.panic c) (Act.put a dst v) w → Q (.panic c) a w) : ∀ (segs : List (List Nat × List Nat)) (listed : Array Bool) (a : Act) (w : World), R w → segsRB md ops segs listed = true →
    wpSegsR P ops Q R segs a w → wpAnyR P md ops Q R (segsRFuel segs) listed a w
  | [], listed, a, w, _, hB, h => ⟨by simpa [segsRB] using hB, h⟩
  | (p, cs) :: rest, listed, a, w, hR, hB, h => by
    simp only [segsRB, Bool.and_eq_true] at hB
    obtain ⟨h1, h2⟩ := hB
    refine any_of_reads hsel hQ hR (fun a2 ha2 => ?_) p listed a rfl h1 h
    match cs, h2, ha2 with
    | [c], h2, ha2 =>
      simp only [Bool.and_eq_true, decide_eq_true_eq] at h2
      rw [show [c].length + segsRFuel rest = segsRFuel rest + 1 by simp; omega]
      exact anyR_one h2.1 (wpOp_mono (fun a' w' h' => ⟨h'.1, any_of_segsR hsel hQ rest _ a' w' h'.1 h2.2 h'.2⟩) ha2)
    | [c, d], h2, ha2 =>
      simp only [Bool.and_eq_true, decide_eq_true_eq] at h2
      obtain ⟨⟨⟨⟨h3, h4⟩, h5⟩, h6⟩, h7⟩ := h2
      rw [show [c, d].length + segsRFuel rest = segsRFuel rest + 1 + 1 by simp; omega]
      refine ⟨fun h0 => (by rw [h3] at h0; cases h0), fun i hi => ?_⟩
      rw [h3] at hi
      have hi' : i = c ∨ i = d := by simpa using hi
      rcases hi' with rfl | rfl
      · exact wpOp_mono (fun a' w' h' => ⟨h'.1, anyR_one h4 (wpOp_mono (fun a'' w'' h'' => ⟨h''.1, any_of_segsR hsel hQ rest _ a'' w'' h''.1 h7 h''.2⟩) h'.2)⟩) ha2.1
      · refine wpOp_mono (fun a' w' h' => ⟨h'.1, anyR_one h5 (wpOp_mono (fun a'' w'' h'' => ⟨h''.1, any_of_segsR hsel hQ rest _ a'' w'' h''.1 ?_ h''.2⟩) h'.2)⟩) ha2.2
        rw [Array.setIfInBounds_comm _ _ (Ne.symm h6)]
        exact h7

theorem region_segsR {id : Nat} {a : Act} {w : World} {l : List Oper} {Q : Exit → Act → World → Prop} (R : World → Prop) (segs : List (List Nat × List Nat)) (hm : P.follows .mixedOrders = true) (hQ : ∀ dst v c a w, Q (.panic c) (Act.put a dst v) w → Q (.panic c) a w)
    (hB : (Region.noSelect l.toArray && segsRB .any l.toArray segs (Array.replicate l.toArray.size false) && decide (segsRFuel segs = l.toArray.size)) = true) (hR : R w.drew)
    (h : Veil (wpSegsR P l.toArray Q R segs a w.drew)) : (Code.region id l.toArray true).wp P Q a w := by
  simp only [Bool.and_eq_true, decide_eq_true_eq] at hB
  obtain ⟨⟨hsel, hB⟩, hf⟩ := hB
  refine wp_region_any hm ?_
  show wpAny P .any l.toArray Q l.toArray.size (Array.replicate l.toArray.size false) a w.drew
  have key := any_of_segsR (md := .any) hsel hQ segs _ a _ hR hB h.out
  rw [hf] at key
  exact any_of_R _ _ _ _ key

/-! ### veiled steps -/
theorem r_segs {p cs : List Nat} {rest : List (List Nat × List Nat)} {a : Act} {w : World} (h : Veil (wpReads P ops R (fun a2 => match cs with
      | [c] => wpOp P ops Q c (fun a' w' => R w' ∧ wpSegsR P ops Q R rest a' w') a2 w
      | [c, d] => wpOp P ops Q c (fun a' w' => R w' ∧ wpOp P ops Q d (fun a'' w'' => R w'' ∧ wpSegsR P ops Q R rest a'' w'') a' w') a2 w ∧
          wpOp P ops Q d (fun a' w' => R w' ∧ wpOp P ops Q c (fun a'' w'' => R w'' ∧ wpSegsR P ops Q R rest a'' w'') a' w') a2 w
      | _ => False) (opsOf ops p) a)) : Veil (wpSegsR P ops Q R ((p, cs) :: rest) a w) := ⟨h.out⟩
/-- one read: in whatever world of R -/
theorem r_step {K : Act → Prop} {a : Act} {o : Oper} {rest : List Oper} (v : Value) (hw : Region.wanted o (yielded ops a.tmps) = true) (hv : ∀ w, R w → (execOp a.eval o).run P w = .ok (.value v) w) (h : Veil (wpReads P ops R K rest (a.put o.dst v))) :
    Veil (wpReads P ops R K (o :: rest) a) := ⟨⟨v, .inl ⟨hw, hv⟩, h.out⟩⟩
theorem r_read {K : Act → Prop} {a : Act} {o : Oper} {rest : List Oper} (v : Value) (hw : Region.wanted o (yielded ops a.tmps) = true) (hv : ∀ w, R w → (execOp a.eval o).run P w = .ok (.value v) w)
    (h : ∀ K' : Act → Prop, (∀ a, Veil (wpReads P ops R K rest a) → K' a) → K' (a.put o.dst v)) : Veil (wpReads P ops R K (o :: rest) a) := r_step v hw hv (h _ fun _ h => h)
theorem ite_yes {c A B : Prop} [Decidable c] (h : c) (ha : A) : if c then A else B := by rw [if_pos h]; exact ha
theorem r_nil1 {c : Nat} {rest : List (List Nat × List Nat)} {a : Act} {w : World} (h : Veil (wpOp P ops Q c (fun a' w' => R w' ∧ wpSegsR P ops Q R rest a' w') a w)) :
    Veil (wpReads P ops R (fun a2 => match [c] with
      | [c] => wpOp P ops Q c (fun a' w' => R w' ∧ wpSegsR P ops Q R rest a' w') a2 w
      | [c, d] => wpOp P ops Q c (fun a' w' => R w' ∧ wpOp P ops Q d (fun a'' w'' => R w'' ∧ wpSegsR P ops Q R rest a'' w'') a' w') a2 w ∧
          wpOp P ops Q d (fun a' w' => R w' ∧ wpOp P ops Q c (fun a'' w'' => R w'' ∧ wpSegsR P ops Q R rest a'' w'') a' w') a2 w
      | _ => False) [] a) := ⟨h.out⟩
theorem r_nil2 {c d : Nat} {rest : List (List Nat × List Nat)} {a : Act} {w : World} (h1 : Veil (wpOp P ops Q c (fun a' w' => R w' ∧ wpOp P ops Q d (fun a'' w'' => R w'' ∧ wpSegsR P ops Q R rest a'' w'') a' w') a w))
    (h2 : Veil (wpOp P ops Q d (fun a' w' => R w' ∧ wpOp P ops Q c (fun a'' w'' => R w'' ∧ wpSegsR P ops Q R rest a'' w'') a' w') a w)) :
    Veil (wpReads P ops R (fun a2 => match [c, d] with
      | [c] => wpOp P ops Q c (fun a' w' => R w' ∧ wpSegsR P ops Q R rest a' w') a2 w
      | [c, d] => wpOp P ops Q c (fun a' w' => R w' ∧ wpOp P ops Q d (fun a'' w'' => R w'' ∧ wpSegsR P ops Q R rest a'' w'') a' w') a2 w ∧
          wpOp P ops Q d (fun a' w' => R w' ∧ wpOp P ops Q c (fun a'' w'' => R w'' ∧ wpSegsR P ops Q R rest a'' w'') a' w') a2 w
      | _ => False) [] a) := ⟨h1.out, h2.out⟩
/-- one operation that may turn the world -/
theorem r_op {K : Act → World → Prop} {a : Act} {w : World} {i : Nat} {o : Oper} (hi : ops[i]? = some o)
    (h : ∀ K' : Act → World → Prop, (∀ a w, R w → Veil (K a w) → K' a w) → if Region.wanted o (yielded ops a.tmps) then o.wp P a w K' Q else K' (a.put o.dst undef) w) : Veil (wpOp P ops Q i (fun a' w' => R w' ∧ K a' w') a w) :=
  ⟨seg_step hi fun K' hK' => h K' fun a w hR ha => hK' a w ⟨hR, ha.out⟩⟩
theorem r_end {a : Act} {w : World} (h : Q .normal a w) : Veil (wpSegsR P ops Q R [] a w) := ⟨h⟩
end
end Go.Proofs.Ytefigjdebakccaa

namespace Go.Proofs.Ytefigjdebakccaa

/-- reads, then an operation, or one of two; behind it what is left -/
inductive Tr where
  | stop : Tr
  | one : List Nat → Nat → Tr → Tr
  | two : List Nat → Nat → Tr → Nat → Tr → Tr

def Tr.fuel : Tr → Nat
  | .stop => 0
  | .one p _ t => p.length + (t.fuel + 1)
  | .two p _ t _ _ => p.length + (t.fuel + 1)

section
variable {P : Program} {ops : Array Oper} {md : Region.Mode} {Q : Exit → Act → World → Prop} {R : World → Prop}

def wpTree (P : Program) (ops : Array Oper) (Q : Exit → Act → World → Prop) (R : World → Prop) : Tr → Act → World → Prop
  | .stop, a, w => Q .normal a w
  | .one p c t, a, w => wpReads P ops R (fun a2 => wpOp P ops Q c (fun a' w' => R w' ∧ wpTree P ops Q R t a' w') a2 w) (opsOf ops p) a
  | .two p c t d u, a, w => wpReads P ops R (fun a2 => wpOp P ops Q c (fun a' w' => R w' ∧ wpTree P ops Q R t a' w') a2 w ∧ wpOp P ops Q d (fun a' w' => R w' ∧ wpTree P ops Q R u a' w') a2 w) (opsOf ops p) a

def treeB (md : Region.Mode) (ops : Array Oper) : Tr → Array Bool → Bool
  | .stop, listed => (Region.ready md ops listed).isEmpty
  | .one p c t, listed => orderB md ops p listed && (decide (Region.ready md ops (setAll listed p) = [c]) && treeB md ops t ((setAll listed p).setIfInBounds c true))
  | .two p c t d u, listed => orderB md ops p listed && (decide (Region.ready md ops (setAll listed p) = [c, d]) && (decide (t.fuel = u.fuel) &&
      (treeB md ops t ((setAll listed p).setIfInBounds c true) && treeB md ops u ((setAll listed p).setIfInBounds d true))))

theorem any_of_tree (hsel : Region.noSelect ops = true) (hQ : ∀ dst v c a w, Q (.panic c) (Act.put a dst v) w → Q (.panic c) a w) : ∀ (t : Tr) (listed : Array Bool) (a : Act) (w : World), R w → treeB md ops t listed = true →
    wpTree P ops Q R t a w → wpAnyR P md ops Q R t.fuel listed a w
  | .stop, listed, a, w, _, hB, h => ⟨by simpa [treeB] using hB, h⟩
  | .one p c t, listed, a, w, hR, hB, h => by
    simp only [treeB, Bool.and_eq_true, decide_eq_true_eq] at hB
    obtain ⟨h1, h2, h3⟩ := hB
    refine any_of_reads hsel hQ hR (fun a2 ha2 => ?_) p listed a rfl h1 h
    exact anyR_one h2 (wpOp_mono (fun a' w' h' => ⟨h'.1, any_of_tree hsel hQ t _ a' w' h'.1 h3 h'.2⟩) ha2)
  | .two p c t d u, listed, a, w, hR, hB, h => by
    simp only [treeB, Bool.and_eq_true, decide_eq_true_eq] at hB
    obtain ⟨h1, h2, h3, h4, h5⟩ := hB
    refine any_of_reads hsel hQ hR (fun a2 ha2 => ?_) p listed a rfl h1 h
    refine ⟨fun h0 => (by rw [h2] at h0; cases h0), fun i hi => ?_⟩
    rw [h2] at hi
    have hi' : i = c ∨ i = d := by simpa using hi
    rcases hi' with rfl | rfl
    · exact wpOp_mono (fun a' w' h' => ⟨h'.1, any_of_tree hsel hQ t _ a' w' h'.1 h4 h'.2⟩) ha2.1
    · rw [h3]
      exact wpOp_mono (fun a' w' h' => ⟨h'.1, any_of_tree hsel hQ u _ a' w' h'.1 h5 h'.2⟩) ha2.2

theorem region_tree {id : Nat} {a : Act} {w : World} {l : List Oper} {Q : Exit → Act → World → Prop} (R : World → Prop) (t : Tr) (hm : P.follows .mixedOrders = true) (hQ : ∀ dst v c a w, Q (.panic c) (Act.put a dst v) w → Q (.panic c) a w)
    (hB : (Region.noSelect l.toArray && treeB .any l.toArray t (Array.replicate l.toArray.size false) && decide (t.fuel = l.toArray.size)) = true) (hR : R w.drew)
    (h : Veil (wpTree P l.toArray Q R t a w.drew)) : (Code.region id l.toArray true).wp P Q a w := by
  simp only [Bool.and_eq_true, decide_eq_true_eq] at hB
  obtain ⟨⟨hsel, hB⟩, hf⟩ := hB
  refine wp_region_any hm ?_
  show wpAny P .any l.toArray Q l.toArray.size (Array.replicate l.toArray.size false) a w.drew
  have key := any_of_tree (md := .any) hsel hQ t _ a _ hR hB h.out
  rw [hf] at key
  exact any_of_R _ _ _ _ key

/-! ### veiled steps (reads: r_read) -/
theorem t_one {p : List Nat} {c : Nat} {t : Tr} {a : Act} {w : World} (h : Veil (wpReads P ops R (fun a2 => wpOp P ops Q c (fun a' w' => R w' ∧ wpTree P ops Q R t a' w') a2 w) (opsOf ops p) a)) : Veil (wpTree P ops Q R (.one p c t) a w) := ⟨h.out⟩
theorem t_two {p : List Nat} {c d : Nat} {t u : Tr} {a : Act} {w : World}
    (h : Veil (wpReads P ops R (fun a2 => wpOp P ops Q c (fun a' w' => R w' ∧ wpTree P ops Q R t a' w') a2 w ∧ wpOp P ops Q d (fun a' w' => R w' ∧ wpTree P ops Q R u a' w') a2 w) (opsOf ops p) a)) : Veil (wpTree P ops Q R (.two p c t d u) a w) := ⟨h.out⟩
theorem t_nil1 {c : Nat} {t : Tr} {a : Act} {w : World} (h : Veil (wpOp P ops Q c (fun a' w' => R w' ∧ wpTree P ops Q R t a' w') a w)) : Veil (wpReads P ops R (fun a2 => wpOp P ops Q c (fun a' w' => R w' ∧ wpTree P ops Q R t a' w') a2 w) [] a) := ⟨h.out⟩
theorem t_nil2 {c d : Nat} {t u : Tr} {a : Act} {w : World} (h1 : Veil (wpOp P ops Q c (fun a' w' => R w' ∧ wpTree P ops Q R t a' w') a w)) (h2 : Veil (wpOp P ops Q d (fun a' w' => R w' ∧ wpTree P ops Q R u a' w') a w)) :
    Veil (wpReads P ops R (fun a2 => wpOp P ops Q c (fun a' w' => R w' ∧ wpTree P ops Q R t a' w') a2 w ∧ wpOp P ops Q d (fun a' w' => R w' ∧ wpTree P ops Q R u a' w') a2 w) [] a) := ⟨h1.out, h2.out⟩
theorem t_one0 {c : Nat} {t : Tr} {a : Act} {w : World} (h : Veil (wpOp P ops Q c (fun a' w' => R w' ∧ wpTree P ops Q R t a' w') a w)) : Veil (wpTree P ops Q R (.one [] c t) a w) := ⟨h.out⟩
theorem t_two0 {c d : Nat} {t u : Tr} {a : Act} {w : World} (h1 : Veil (wpOp P ops Q c (fun a' w' => R w' ∧ wpTree P ops Q R t a' w') a w)) (h2 : Veil (wpOp P ops Q d (fun a' w' => R w' ∧ wpTree P ops Q R u a' w') a w)) :
    Veil (wpTree P ops Q R (.two [] c t d u) a w) := ⟨h1.out, h2.out⟩
theorem t_end {a : Act} {w : World} (h : Q .normal a w) : Veil (wpTree P ops Q R .stop a w) := ⟨h⟩
end
end Go.Proofs.Ytefigjdebakccaa
