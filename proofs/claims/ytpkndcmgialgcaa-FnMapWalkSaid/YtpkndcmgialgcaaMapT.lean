/- What a map holds, as a list of pairs: its order, and what set and delete make of it. No program here. Conditions of this file: none. -/
import Derived.Lib.Hide
namespace Go.Proofs.Ytpkndcmgialgcaa

section
variable {K V : Type} (h : K → Nat)

/-- five bits of a hash -/
def frag (t x : Nat) : Nat := x / 32 ^ t % 32
theorem frag_lt (t x : Nat) : frag t x < 32 := Nat.mod_lt _ (by decide)
/-- the pairs whose hash has the fragment f at t -/
def part (t f : Nat) (es : List (K × V)) : List (K × V) := es.filter fun e => decide (frag t (h e.1) = f)
/-- all parts, one behind the other -/
def cat (c : Nat → List (K × V)) : List (K × V) := (List.range 32).flatMap c
theorem cat_congr {c c' : Nat → List (K × V)} (hc : ∀ f, f < 32 → c f = c' f) : cat c = cat c' := by
  unfold cat
  have : ∀ l : List Nat, (∀ f ∈ l, f < 32) → l.flatMap c = l.flatMap c' := by
    intro l
    induction l with
    | nil => intro _; rfl
    | cons a l ih =>
      intro hl
      rw [List.flatMap_cons, List.flatMap_cons, hc a (hl a (.head _)), ih fun f hf => hl f (.tail _ hf)]
  exact this _ fun f hf => List.mem_range.1 hf
theorem mem_cat {c : Nat → List (K × V)} {e : K × V} : e ∈ cat c ↔ ∃ f, f < 32 ∧ e ∈ c f := by
  unfold cat
  simp only [List.mem_flatMap, List.mem_range]

/-- every pair lies in the part of its own fragment -/
def Sorts (t : Nat) (c : Nat → List (K × V)) : Prop := ∀ f, f < 32 → ∀ e ∈ c f, frag t (h e.1) = f

theorem filter_cat (p : K × V → Bool) (c : Nat → List (K × V)) : (cat c).filter p = cat fun f => (c f).filter p := by
  unfold cat
  generalize List.range 32 = l
  induction l with
  | nil => rfl
  | cons a l ih => simp only [List.flatMap_cons, List.filter_append, ih]
theorem map_cat (g : K × V → K × V) (c : Nat → List (K × V)) : (cat c).map g = cat fun f => (c f).map g := by
  unfold cat
  generalize List.range 32 = l
  induction l with
  | nil => rfl
  | cons a l ih => simp only [List.flatMap_cons, List.map_append, ih]

theorem cat_one {c : Nat → List (K × V)} {f0 : Nat} (h0 : f0 < 32) (hc : ∀ f, f < 32 → f ≠ f0 → c f = []) : cat c = c f0 := by
  unfold cat
  have key : ∀ l : List Nat, l.Nodup → (∀ f ∈ l, f < 32) → l.flatMap c = if f0 ∈ l then c f0 else [] := by
    intro l
    induction l with
    | nil => intro _ _; simp
    | cons a l ih =>
      intro hn hl
      rw [List.nodup_cons] at hn
      rw [List.flatMap_cons, ih hn.2 fun f hf => hl f (.tail _ hf)]
      by_cases e : a = f0
      · subst e
        simp [hn.1]
      · rw [hc a (hl a (.head _)) e]
        have e' : ¬ f0 = a := fun h => e h.symm
        simp [e']
  rw [key _ List.nodup_range fun f hf => List.mem_range.1 hf]
  simp [h0]

theorem part_cat {t : Nat} {c : Nat → List (K × V)} (hs : Sorts h t c) {f0 : Nat} (h0 : f0 < 32) : part h t f0 (cat c) = c f0 := by
  unfold part
  rw [filter_cat, cat_one h0]
  · apply List.filter_eq_self.2
    intro e he
    simpa using hs f0 h0 e he
  · intro f hf hne
    apply List.filter_eq_nil_iff.2
    intro e he
    have := hs f hf e he
    simp only [decide_eq_true_eq]
    omega

theorem sorts_part (t : Nat) (es : List (K × V)) : Sorts h t fun f => part h t f es := fun f _ e he => by
  unfold part at he
  rw [List.mem_filter] at he
  simpa using he.2

theorem flatMap_perm {c c' : Nat → List (K × V)} : ∀ l : List Nat, (∀ f ∈ l, (c f).Perm (c' f)) → (l.flatMap c).Perm (l.flatMap c')
  | [], _ => .refl _
  | a :: l, hp => by
    rw [List.flatMap_cons, List.flatMap_cons]
    exact (hp a (.head _)).append (flatMap_perm l fun f hf => hp f (.tail _ hf))
theorem flatMap_one {c : Nat → List (K × V)} (a : K × V) (f0 : Nat) : ∀ l : List Nat, l.Nodup → f0 ∈ l → (l.flatMap fun f => if f = f0 then a :: c f else c f).Perm (a :: l.flatMap c)
  | [], _, h0 => by cases h0
  | b :: l, hn, h0 => by
    rw [List.nodup_cons] at hn
    rw [List.flatMap_cons, List.flatMap_cons]
    by_cases e : b = f0
    · subst e
      rw [if_pos rfl]
      have hl : (l.flatMap fun f => if f = b then a :: c f else c f).Perm (l.flatMap c) := flatMap_perm l fun f hf => by
        rw [if_neg fun e => by rw [e] at hf; exact hn.1 hf]
      exact (hl.append_left _).trans (.refl _)
    · rw [if_neg e]
      have h1 : f0 ∈ l := by
        rcases List.mem_cons.1 h0 with h | h
        · exact absurd h.symm e
        · exact h
      exact ((flatMap_one a f0 l hn.2 h1).append_left (c b)).trans List.perm_middle
theorem cat_part_perm (t : Nat) : ∀ es : List (K × V), (cat fun f => part h t f es).Perm es
  | [] => by
    have : ∀ l : List Nat, l.flatMap (fun _ => ([] : List (K × V))) = [] := fun l => by induction l <;> simp_all
    exact List.Perm.of_eq (this (List.range 32))
  | a :: es => by
    have h1 : (cat fun f => part h t f (a :: es)) = cat fun f => if f = frag t (h a.1) then a :: part h t f es else part h t f es := cat_congr fun f _ => by
      unfold part
      by_cases e : f = frag t (h a.1)
      · rw [if_pos e, List.filter_cons_of_pos (by simp [e])]
      · rw [if_neg e, List.filter_cons_of_neg (by simp only [decide_eq_true_eq]; omega)]
    rw [h1]
    exact (flatMap_one a _ _ List.nodup_range (List.mem_range.2 (frag_lt _ _))).trans ((cat_part_perm t es).cons a)
/-- a new pair's place: r levels are left, t are behind -/
def insR : Nat → Nat → List (K × V) → K → V → List (K × V)
  | 0, _, es, k, v => es ++ [(k, v)]
  | r + 1, t, es, k, v => cat fun f => if f = frag t (h k) then insR r (t + 1) (part h t f es) k v else part h t f es
theorem insR_succ (r t : Nat) (es : List (K × V)) (k : K) (v : V) : insR h (r + 1) t es k v = cat fun f => if f = frag t (h k) then insR h r (t + 1) (part h t f es) k v else part h t f es := rfl
theorem insR_perm (k : K) (v : V) : ∀ (r t : Nat) (es : List (K × V)), (insR h r t es k v).Perm ((k, v) :: es)
  | 0, _, es => by
    show (es ++ [(k, v)]).Perm _
    exact List.perm_append_singleton _ _
  | r + 1, t, es => by
    have h1 : (insR h (r + 1) t es k v).Perm (cat fun f => if f = frag t (h k) then (k, v) :: part h t f es else part h t f es) := flatMap_perm _ fun f _ => by
      by_cases e : f = frag t (h k)
      · rw [if_pos e, if_pos e]
        exact insR_perm k v r (t + 1) _
      · rw [if_neg e, if_neg e]
    exact h1.trans ((flatMap_one (k, v) _ _ List.nodup_range (List.mem_range.2 (frag_lt _ _))).trans ((cat_part_perm h t es).cons _))

/-- pairs of one hash: the new one comes last -/
theorem insR_same (k : K) (v : V) : ∀ (r t : Nat) (es : List (K × V)), (∀ e ∈ es, h e.1 = h k) → insR h r t es k v = es ++ [(k, v)]
  | 0, _, _, _ => rfl
  | r + 1, t, es, hs => by
    rw [insR_succ]
    have hp : part h t (frag t (h k)) es = es := by
      unfold part
      apply List.filter_eq_self.2
      intro e he
      simp [hs e he]
    rw [cat_one (frag_lt t (h k)), if_pos rfl, hp, insR_same k v r (t + 1) es hs]
    intro f _ hne
    rw [if_neg hne]
    unfold part
    apply List.filter_eq_nil_iff.2
    intro e he
    simp only [decide_eq_true_eq, hs e he]
    omega

/-- no key twice -/
def Once (es : List (K × V)) : Prop := (es.map (·.1)).Nodup
theorem Once.perm {es es' : List (K × V)} (ho : Once es) (hp : es.Perm es') : Once es' := (hp.map _).nodup_iff.1 ho
end

section
variable {K V : Type} [DecidableEq K] (h : K → Nat)

def has (es : List (K × V)) (k : K) : Bool := es.any fun e => decide (e.1 = k)
def upd (es : List (K × V)) (k : K) (v : V) : List (K × V) := es.map fun e => if e.1 = k then (k, v) else e
def setR (r t : Nat) (es : List (K × V)) (k : K) (v : V) : List (K × V) := if has es k then upd es k v else insR h r t es k v
def del (es : List (K × V)) (k : K) : List (K × V) := es.filter fun e => decide (e.1 ≠ k)
def look (es : List (K × V)) (k : K) : Option V := (es.find? fun e => decide (e.1 = k)).map (·.2)

theorem has_iff {es : List (K × V)} {k : K} : has es k = true ↔ ∃ e ∈ es, e.1 = k := by simp [has]
theorem has_cat {t : Nat} {c : Nat → List (K × V)} (hs : Sorts h t c) (k : K) : has (cat c) k = has (c (frag t (h k))) k := by
  rw [Bool.eq_iff_iff, has_iff, has_iff]
  constructor
  · rintro ⟨e, he, rfl⟩
    obtain ⟨f, hf, he⟩ := mem_cat.1 he
    rw [hs f hf e he]
    exact ⟨e, he, rfl⟩
  · rintro ⟨e, he, rfl⟩
    exact ⟨e, mem_cat.2 ⟨_, frag_lt _ _, he⟩, rfl⟩
theorem upd_none {es : List (K × V)} {k : K} (v : V) (hn : ∀ e ∈ es, e.1 ≠ k) : upd es k v = es := by
  unfold upd
  conv => rhs; rw [← List.map_id es]
  apply List.map_congr_left
  intro e he
  rw [if_neg (hn e he)]
  rfl
theorem del_none {es : List (K × V)} {k : K} (hn : ∀ e ∈ es, e.1 ≠ k) : del es k = es := by
  unfold del
  apply List.filter_eq_self.2
  intro e he
  simpa using hn e he

/-- set in a branch: in the part of the key's fragment -/
theorem setR_cat {r t : Nat} {c : Nat → List (K × V)} (hs : Sorts h t c) (k : K) (v : V) :
    setR h (r + 1) t (cat c) k v = cat fun f => if f = frag t (h k) then setR h r (t + 1) (c f) k v else c f := by
  unfold setR
  rw [has_cat h hs]
  by_cases hh : has (c (frag t (h k))) k = true
  · rw [if_pos hh]
    unfold upd
    rw [map_cat]
    refine cat_congr fun f hf => ?_
    by_cases e : f = frag t (h k)
    · subst e
      rw [if_pos rfl, if_pos hh]
    · rw [if_neg e]
      exact upd_none v fun x hx hk => e (by rw [← hk]; exact (hs f hf x hx).symm)
  · rw [if_neg hh]
    rw [insR_succ]
    refine cat_congr fun f hf => ?_
    rw [part_cat h hs hf]
    by_cases e : f = frag t (h k)
    · subst e
      rw [if_pos rfl, if_pos rfl, if_neg hh]
    · rw [if_neg e, if_neg e]

/-- delete in a branch likewise -/
theorem del_cat {t : Nat} {c : Nat → List (K × V)} (hs : Sorts h t c) (k : K) : del (cat c) k = cat fun f => if f = frag t (h k) then del (c f) k else c f := by
  unfold del
  rw [filter_cat]
  refine cat_congr fun f hf => ?_
  by_cases e : f = frag t (h k)
  · subst e
    rw [if_pos rfl]
  · rw [if_neg e]
    exact del_none fun x hx hk => e (by rw [← hk]; exact (hs f hf x hx).symm)

theorem find_cat {t : Nat} {c : Nat → List (K × V)} (hs : Sorts h t c) (k : K) : look (cat c) k = look (c (frag t (h k))) k := by
  unfold look cat
  congr 1
  have key : ∀ l : List Nat, l.Nodup → (∀ f ∈ l, f < 32) → (l.flatMap c).find? (fun e => decide (e.1 = k)) = if frag t (h k) ∈ l then (c (frag t (h k))).find? (fun e => decide (e.1 = k)) else none := by
    intro l
    induction l with
    | nil => intro _ _; simp
    | cons a l ih =>
      intro hn hl
      rw [List.nodup_cons] at hn
      rw [List.flatMap_cons, List.find?_append, ih hn.2 fun f hf => hl f (.tail _ hf)]
      by_cases e : a = frag t (h k)
      · subst e
        simp [hn.1]
      · have e' : ¬ frag t (h k) = a := fun h => e h.symm
        have hnone : (c a).find? (fun e => decide (e.1 = k)) = none := by
          rw [List.find?_eq_none]
          intro x hx hk
          apply e
          have h1 := hs a (hl a (.head _)) x hx
          have h2 : x.1 = k := by simpa using hk
          rw [← h2, h1]
        rw [hnone]
        simp [e']
  rw [key _ List.nodup_range fun f hf => List.mem_range.1 hf]
  simp [frag_lt]

theorem setR_nil (r t : Nat) (k : K) (v : V) : setR h r t [] k v = [(k, v)] := by
  unfold setR
  rw [if_neg (by simp [has]), insR_same h k v r t [] (by simp)]
  rfl

/-- a leaf of one hash, and a key of another: the parts of the branch that joins them -/
theorem setR_leaf {r t x : Nat} {es : List (K × V)} {k : K} (v : V) (hs : ∀ e ∈ es, h e.1 = x) (hne : x ≠ h k) :
    setR h (r + 1) t es k v = cat fun f => if f = frag t (h k) then setR h r (t + 1) (if frag t x = frag t (h k) then es else []) k v else if f = frag t x then es else [] := by
  have hk : ∀ e ∈ es, e.1 ≠ k := fun e he e1 => hne (by rw [← hs e he, e1])
  have hh : ¬ has es k = true := fun h1 => by
    obtain ⟨e, he, e1⟩ := has_iff.1 h1
    exact hk e he e1
  have hp : ∀ f, part h t f es = if f = frag t x then es else [] := fun f => by
    unfold part
    by_cases e : f = frag t x
    · rw [if_pos e]
      apply List.filter_eq_self.2
      intro y hy
      simp [hs y hy, e]
    · rw [if_neg e]
      apply List.filter_eq_nil_iff.2
      intro y hy
      simp only [decide_eq_true_eq, hs y hy]
      omega
  have hh2 : ¬ has (if frag t x = frag t (h k) then es else []) k = true := by
    split
    · exact hh
    · simp [has]
  conv => lhs; unfold setR
  rw [if_neg hh]
  rw [insR_succ]
  refine cat_congr fun f _ => ?_
  rw [hp]
  by_cases e : f = frag t (h k)
  · subst e
    rw [if_pos rfl, if_pos rfl]
    unfold setR
    rw [if_neg hh2]
    by_cases e : frag t (h k) = frag t x
    · rw [if_pos e, if_pos e.symm]
    · rw [if_neg e, if_neg fun h => e h.symm]
  · rw [if_neg e, if_neg e]

/-! ### what is where, whatever the order -/
theorem look_iff : ∀ {es : List (K × V)}, Once es → ∀ {k : K} {v : V}, look es k = some v ↔ (k, v) ∈ es
  | [], _, k, v => by simp [look]
  | a :: es, ho, k, v => by
    unfold Once at ho
    rw [List.map_cons, List.nodup_cons] at ho
    unfold look
    by_cases e : a.1 = k
    · rw [List.find?_cons_of_pos (by simp [e])]
      simp only [Option.map_some, Option.some.injEq, List.mem_cons]
      constructor
      · rintro rfl
        exact .inl (by rw [← e])
      · rintro (h1 | h1)
        · rw [← h1]
        · exact absurd (List.mem_map.2 ⟨_, h1, e.symm⟩) ho.1
    · rw [List.find?_cons_of_neg (by simp [e])]
      have ih := look_iff (es := es) ho.2 (k := k) (v := v)
      unfold look at ih
      rw [ih, List.mem_cons]
      constructor
      · exact .inr
      · rintro (h1 | h1)
        · exact absurd (by rw [← h1]) e
        · exact h1
theorem look_eq {es es' : List (K × V)} (ho : Once es) (ho' : Once es') (hm : ∀ e, e ∈ es ↔ e ∈ es') (k : K) : look es k = look es' k := by
  have key : ∀ v, look es k = some v ↔ look es' k = some v := fun v => by rw [look_iff ho, look_iff ho', hm]
  cases h1 : look es k with
  | some v => exact ((key v).1 h1).symm
  | none =>
    cases h2 : look es' k with
    | none => rfl
    | some v => rw [(key v).2 h2] at h1; cases h1
theorem upd_keys (es : List (K × V)) (k : K) (v : V) : (upd es k v).map (·.1) = es.map (·.1) := by
  unfold upd
  rw [List.map_map]
  apply List.map_congr_left
  intro e _
  simp only [Function.comp]
  split
  · rename_i e1; exact e1.symm
  · rfl
theorem not_has {es : List (K × V)} {k : K} (hn : ¬ has es k = true) : k ∉ es.map (·.1) := fun hm => by
  obtain ⟨e, he, e1⟩ := List.mem_map.1 hm
  exact hn (has_iff.2 ⟨e, he, e1⟩)
/-- lists that have what a set makes -/
def IsSet (es : List (K × V)) (k : K) (v : V) (es' : List (K × V)) : Prop := if has es k then es' = upd es k v else es'.Perm ((k, v) :: es)
theorem setR_is (r t : Nat) (es : List (K × V)) (k : K) (v : V) : IsSet es k v (setR h r t es k v) := by
  unfold IsSet setR
  by_cases hh : has es k = true
  · rw [if_pos hh, if_pos hh]
  · rw [if_neg hh, if_neg hh]
    exact insR_perm h k v r t es
theorem IsSet.once {es es' : List (K × V)} {k : K} {v : V} (hi : IsSet es k v es') (ho : Once es) : Once es' := by
  unfold IsSet at hi
  by_cases hh : has es k = true
  · rw [if_pos hh] at hi
    subst hi
    unfold Once
    rw [upd_keys]
    exact ho
  · rw [if_neg hh] at hi
    refine Once.perm ?_ hi.symm
    unfold Once
    rw [List.map_cons, List.nodup_cons]
    exact ⟨not_has hh, ho⟩
theorem IsSet.mem {es es' : List (K × V)} {k : K} {v : V} (hi : IsSet es k v es') (e : K × V) : e ∈ es' ↔ e = (k, v) ∨ (e ∈ es ∧ e.1 ≠ k) := by
  unfold IsSet at hi
  by_cases hh : has es k = true
  · rw [if_pos hh] at hi
    subst hi
    unfold upd
    rw [List.mem_map]
    constructor
    · rintro ⟨a, ha, rfl⟩
      by_cases e1 : a.1 = k
      · rw [if_pos e1]; exact .inl rfl
      · rw [if_neg e1]; exact .inr ⟨ha, e1⟩
    · rintro (rfl | ⟨h1, h2⟩)
      · obtain ⟨a, ha, e1⟩ := has_iff.1 hh
        exact ⟨a, ha, by rw [if_pos e1]⟩
      · exact ⟨e, h1, by rw [if_neg h2]⟩
  · rw [if_neg hh] at hi
    rw [hi.mem_iff, List.mem_cons]
    constructor
    · rintro (h1 | h1)
      · exact .inl h1
      · exact .inr ⟨h1, fun e1 => hh (has_iff.2 ⟨e, h1, e1⟩)⟩
    · rintro (h1 | h1)
      · exact .inl h1
      · exact .inr h1.1
theorem IsSet.length {es es' : List (K × V)} {k : K} {v : V} (hi : IsSet es k v es') : es'.length = if has es k then es.length else es.length + 1 := by
  unfold IsSet at hi
  by_cases hh : has es k = true
  · rw [if_pos hh] at hi ⊢
    rw [hi]
    simp [upd]
  · rw [if_neg hh] at hi ⊢
    rw [hi.length_eq]
    rfl
theorem set_look {es es' : List (K × V)} {k : K} {v : V} (hi : IsSet es k v es') (ho : Once es) (x : K) : look es' x = if x = k then some v else look es x := by
  have ho' := hi.once ho
  by_cases e : x = k
  · rw [if_pos e, look_iff ho', hi.mem]
    exact .inl (by rw [e])
  · rw [if_neg e]
    have key : ∀ y, look es' x = some y ↔ look es x = some y := fun y => by
      rw [look_iff ho', look_iff ho, hi.mem]
      constructor
      · rintro (h1 | h1)
        · exact absurd (by have := congrArg Prod.fst h1; exact this) e
        · exact h1.1
      · exact fun h1 => .inr ⟨h1, e⟩
    cases h1 : look es x with
    | some y => exact (key y).2 h1
    | none =>
      cases h2 : look es' x with
      | none => rfl
      | some y => rw [(key y).1 h2] at h1; cases h1
theorem del_once {es : List (K × V)} (ho : Once es) (k : K) : Once (del es k) := by
  unfold Once del
  exact List.Nodup.sublist (List.Sublist.map _ List.filter_sublist) ho
theorem del_mem {es : List (K × V)} {k : K} (e : K × V) : e ∈ del es k ↔ e ∈ es ∧ e.1 ≠ k := by simp [del]
theorem del_look {es : List (K × V)} (ho : Once es) (k x : K) : look (del es k) x = if x = k then none else look es x := by
  have ho' := del_once ho k
  by_cases e : x = k
  · rw [if_pos e]
    cases h1 : look (del es k) x with
    | none => rfl
    | some y =>
      rw [look_iff ho', del_mem] at h1
      exact absurd e h1.2
  · rw [if_neg e]
    have key : ∀ y, look (del es k) x = some y ↔ look es x = some y := fun y => by
      rw [look_iff ho', look_iff ho, del_mem]
      exact ⟨fun h1 => h1.1, fun h1 => ⟨h1, e⟩⟩
    cases h1 : look es x with
    | some y => exact (key y).2 h1
    | none =>
      cases h2 : look (del es k) x with
      | none => rfl
      | some y => rw [(key y).1 h2] at h1; cases h1
theorem has_look {es : List (K × V)} (ho : Once es) (k : K) : has es k = (look es k).isSome := by
  rw [Bool.eq_iff_iff, has_iff, Option.isSome_iff_exists]
  constructor
  · rintro ⟨e, he, rfl⟩
    exact ⟨e.2, (look_iff ho).2 he⟩
  · rintro ⟨v, hv⟩
    exact ⟨_, (look_iff ho).1 hv, rfl⟩
theorem del_length : ∀ {es : List (K × V)}, Once es → ∀ k : K, (del es k).length = if has es k then es.length - 1 else es.length
  | [], _, k => by simp [del, has]
  | a :: es, ho, k => by
    have ho2 := ho
    unfold Once at ho2
    rw [List.map_cons, List.nodup_cons] at ho2
    by_cases e : a.1 = k
    · have hn : ∀ x ∈ es, x.1 ≠ k := fun x hx e1 => ho2.1 (List.mem_map.2 ⟨x, hx, by rw [e1, e]⟩)
      have h1 : del (a :: es) k = es := by
        show (List.filter _ _) = _
        rw [List.filter_cons_of_neg (by simp [e])]
        exact del_none hn
      rw [h1, if_pos (has_iff.2 ⟨a, .head _, e⟩)]
      simp
    · have h1 : del (a :: es) k = a :: del es k := by
        show (List.filter _ _) = _
        rw [List.filter_cons_of_pos (by simp [e])]
        rfl
      have h2 : has (a :: es) k = has es k := by simp [has, e]
      have ih := del_length (es := es) ho2.2 k
      rw [h1, h2, List.length_cons, ih]
      by_cases hh : has es k = true
      · rw [if_pos hh, if_pos hh, List.length_cons]
        obtain ⟨x, hx, _⟩ := has_iff.1 hh
        have := List.length_pos_of_mem hx
        omega
      · rw [if_neg hh, if_neg hh, List.length_cons]

/-! ### the whole map -/
/-- what a map has, and whether its root is a tree's -/
structure MS (K V : Type) where
  trie : Bool
  es : List (K × V)
def MS.set (m : MS K V) (k : K) (v : V) : MS K V :=
  if m.es = [] then ⟨false, [(k, v)]⟩
  else if m.trie then ⟨true, setR h 7 0 m.es k v⟩
  else if has m.es k then ⟨false, upd m.es k v⟩
  else if m.es.length < 8 then ⟨false, m.es ++ [(k, v)]⟩
  else ⟨true, m.es.foldl (fun a e => setR h 7 0 a e.1 e.2) [(k, v)]⟩
def MS.del (m : MS K V) (k : K) : MS K V := ⟨m.trie, Go.Proofs.Ytpkndcmgialgcaa.del m.es k⟩

theorem fold_set : ∀ (es acc : List (K × V)), Once acc → Once es → (∀ e ∈ es, ¬ has acc e.1 = true) → (es.foldl (fun a e => setR h 7 0 a e.1 e.2) acc).Perm (acc ++ es)
  | [], acc, _, _, _ => by simp
  | a :: es, acc, ha, he, hn => by
    rw [List.foldl_cons]
    have h0 : ¬ has acc a.1 = true := hn a (.head _)
    have hi := setR_is h 7 0 acc a.1 a.2
    have hp : (setR h 7 0 acc a.1 a.2).Perm ((a.1, a.2) :: acc) := by
      have h1 := hi
      unfold IsSet at h1
      rw [if_neg h0] at h1
      exact h1
    have he2 := he
    unfold Once at he2
    rw [List.map_cons, List.nodup_cons] at he2
    refine (fold_set es _ (hi.once ha) he2.2 fun x hx hh => ?_).trans ?_
    · obtain ⟨y, hy, e1⟩ := has_iff.1 hh
      rcases List.mem_cons.1 (hp.mem_iff.1 hy) with h1 | h1
      · exact he2.1 (List.mem_map.2 ⟨x, hx, by rw [← e1, h1]⟩)
      · exact hn x (.tail _ hx) (has_iff.2 ⟨y, h1, e1⟩)
    · exact (hp.append_right es).trans (by simpa using (List.perm_middle (a := a) (l₁ := acc) (l₂ := es)).symm)

theorem MS.set_is (m : MS K V) (ho : Once m.es) (k : K) (v : V) : IsSet m.es k v (m.set h k v).es := by
  unfold MS.set
  split
  · rename_i h0
    rw [h0]
    unfold IsSet
    rw [if_neg (by simp [has])]
  · split
    · exact setR_is h 7 0 m.es k v
    · split
      · rename_i hh
        unfold IsSet
        rw [if_pos hh]
      · rename_i hh
        unfold IsSet
        rw [if_neg hh]
        split
        · exact List.perm_append_singleton _ _
        · refine (fold_set h m.es [(k, v)] (by simp [Once]) ho fun e he h1 => ?_).trans (.refl _)
          obtain ⟨y, hy, e1⟩ := has_iff.1 h1
          have hy' : y = (k, v) := by simpa using hy
          subst hy'
          exact hh (has_iff.2 ⟨e, he, e1.symm⟩)
end
end Go.Proofs.Ytpkndcmgialgcaa
