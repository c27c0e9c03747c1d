/- The orders and what a sorted map holds, as a list of pairs: what set and delete make of it. No program here. Conditions of this file: none. -/
import Derived.Lib.Hide
namespace Go.Proofs.Ytefigjdebakccaa


section
variable {K V : Type} {lt : K → K → Bool}

/-- an order in which any two keys stand -/
structure Ord (lt : K → K → Bool) : Prop where
  irrefl : ∀ a, lt a a = false
  trans : ∀ {a b c}, lt a b = true → lt b c = true → lt a c = true
  total : ∀ {a b}, a ≠ b → lt a b = true ∨ lt b a = true
theorem Ord.asymm (o : Ord lt) {a b : K} (h : lt a b = true) : lt b a = false := by
  cases h2 : lt b a with
  | false => rfl
  | true => have := o.trans h h2; rw [o.irrefl] at this; cases this
theorem Ord.ne (o : Ord lt) {a b : K} (h : lt a b = true) : a ≠ b := by
  rintro rfl
  rw [o.irrefl] at h
  cases h
/-- pairs that stand in the order -/
def Srt (lt : K → K → Bool) (es : List (K × V)) : Prop := es.Pairwise fun a b => lt a.1 b.1 = true
def low (lt : K → K → Bool) (es : List (K × V)) (k : K) : List (K × V) := es.takeWhile fun e => lt e.1 k
def up (lt : K → K → Bool) (es : List (K × V)) (k : K) : List (K × V) := es.dropWhile fun e => lt e.1 k
def past [DecidableEq K] (l : List (K × V)) (k : K) : List (K × V) := l.dropWhile fun e => decide (e.1 = k)
def ins [DecidableEq K] (lt : K → K → Bool) (es : List (K × V)) (k : K) (v : V) : List (K × V) := low lt es k ++ (k, v) :: past (up lt es k) k
def del [DecidableEq K] (lt : K → K → Bool) (es : List (K × V)) (k : K) : List (K × V) := low lt es k ++ past (up lt es k) k
def look [DecidableEq K] (lt : K → K → Bool) (es : List (K × V)) (k : K) : Option V := ((up lt es k).head?.filter fun e => decide (e.1 = k)).map (·.2)
def at_ (lt : K → K → Bool) (es : List (K × V)) (k : K) : Nat := (low lt es k).length

theorem low_t {a : K × V} {es : List (K × V)} {k : K} (h : lt a.1 k = true) : low lt (a :: es) k = a :: low lt es k := by unfold low; rw [List.takeWhile_cons, if_pos h]
theorem low_f {a : K × V} {es : List (K × V)} {k : K} (h : lt a.1 k = false) : low lt (a :: es) k = [] := by unfold low; rw [List.takeWhile_cons, if_neg (by rw [h]; simp)]
theorem up_t {a : K × V} {es : List (K × V)} {k : K} (h : lt a.1 k = true) : up lt (a :: es) k = up lt es k := by unfold up; rw [List.dropWhile_cons, if_pos h]
theorem up_f {a : K × V} {es : List (K × V)} {k : K} (h : lt a.1 k = false) : up lt (a :: es) k = a :: es := by unfold up; rw [List.dropWhile_cons, if_neg (by rw [h]; simp)]
theorem past_t [DecidableEq K] {a : K × V} {es : List (K × V)} {k : K} (h : a.1 = k) : past (a :: es) k = past es k := by unfold past; rw [List.dropWhile_cons, if_pos (by simpa using h)]
theorem past_f [DecidableEq K] {a : K × V} {es : List (K × V)} {k : K} (h : a.1 ≠ k) : past (a :: es) k = a :: es := by unfold past; rw [List.dropWhile_cons, if_neg (by simpa using h)]
theorem low_up (es : List (K × V)) (k : K) : low lt es k ++ up lt es k = es := List.takeWhile_append_dropWhile
theorem low_all {es : List (K × V)} {k : K} : ∀ e ∈ low lt es k, lt e.1 k = true := fun _e he => by
  induction es with
  | nil => cases he
  | cons a es ih =>
    cases h : lt a.1 k with
    | true =>
      rw [low_t h] at he
      rcases List.mem_cons.1 he with rfl | he
      · exact h
      · exact ih he
    | false => rw [low_f h] at he; cases he
theorem low_app {A B : List (K × V)} {k : K} (hA : ∀ e ∈ A, lt e.1 k = true) : low lt (A ++ B) k = A ++ low lt B k := by
  induction A with
  | nil => rfl
  | cons a A ih => rw [List.cons_append, low_t (hA a (.head _)), ih fun e he => hA e (.tail _ he)]; rfl
theorem up_app {A B : List (K × V)} {k : K} (hA : ∀ e ∈ A, lt e.1 k = true) : up lt (A ++ B) k = up lt B k := by
  induction A with
  | nil => rfl
  | cons a A ih => rw [List.cons_append, up_t (hA a (.head _)), ih fun e he => hA e (.tail _ he)]
theorem low_off {C : List (K × V)} {k : K} (hC : ∀ e ∈ C, lt e.1 k = false) (B : List (K × V)) : low lt (B ++ C) k = low lt B k := by
  induction B with
  | nil =>
    cases C with
    | nil => rfl
    | cons c C => rw [List.nil_append, low_f (hC c (.head _))]; rfl
  | cons b B ih =>
    rw [List.cons_append]
    cases h : lt b.1 k with
    | true => rw [low_t h, low_t h, ih]
    | false => rw [low_f h, low_f h]
theorem up_off {C : List (K × V)} {k : K} (hC : ∀ e ∈ C, lt e.1 k = false) (B : List (K × V)) : up lt (B ++ C) k = up lt B k ++ C := by
  induction B with
  | nil =>
    cases C with
    | nil => rfl
    | cons c C => rw [List.nil_append, up_f (hC c (.head _))]; rfl
  | cons b B ih =>
    rw [List.cons_append]
    cases h : lt b.1 k with
    | true => rw [up_t h, up_t h, ih]
    | false => rw [up_f h, up_f h]; rfl
theorem past_off [DecidableEq K] {C : List (K × V)} {k : K} (hC : ∀ e ∈ C, e.1 ≠ k) (B : List (K × V)) : past (B ++ C) k = past B k ++ C := by
  induction B with
  | nil =>
    cases C with
    | nil => rfl
    | cons c C => rw [List.nil_append, past_f (hC c (.head _))]; rfl
  | cons b B ih =>
    rw [List.cons_append]
    by_cases h : b.1 = k
    · rw [past_t h, past_t h, ih]
    · rw [past_f h, past_f h]; rfl

/-- what stands ahead of the key's part and behind it stays -/
theorem ins_mid [DecidableEq K] {A B C : List (K × V)} {k : K} (o : Ord lt) (hA : ∀ e ∈ A, lt e.1 k = true) (hC : ∀ e ∈ C, lt k e.1 = true) (v : V) : ins lt (A ++ B ++ C) k v = A ++ ins lt B k v ++ C := by
  unfold ins
  rw [List.append_assoc, low_app hA, up_app hA, low_off (fun e he => o.asymm (hC e he)), up_off (fun e he => o.asymm (hC e he)), past_off (fun e he => (o.ne (hC e he)).symm)]
  simp
theorem del_mid [DecidableEq K] {A B C : List (K × V)} {k : K} (o : Ord lt) (hA : ∀ e ∈ A, lt e.1 k = true) (hC : ∀ e ∈ C, lt k e.1 = true) : del lt (A ++ B ++ C) k = A ++ del lt B k ++ C := by
  unfold del
  rw [List.append_assoc, low_app hA, up_app hA, low_off (fun e he => o.asymm (hC e he)), up_off (fun e he => o.asymm (hC e he)), past_off (fun e he => (o.ne (hC e he)).symm)]
  simp
theorem look_mid [DecidableEq K] {A B C : List (K × V)} {k : K} (o : Ord lt) (hA : ∀ e ∈ A, lt e.1 k = true) (hC : ∀ e ∈ C, lt k e.1 = true) : look lt (A ++ B ++ C) k = look lt B k := by
  unfold look
  rw [List.append_assoc, up_app hA, up_off (fun e he => o.asymm (hC e he))]
  cases h : up lt B k with
  | nil =>
    cases C with
    | nil => rfl
    | cons c C =>
      have : c.1 ≠ k := (o.ne (hC c (.head _))).symm
      simp [this]
  | cons b B => rfl

section
variable (o : Ord lt) {es : List (K × V)} (hs : Srt lt es)
include o hs
theorem up_ge {k : K} : ∀ e ∈ up lt es k, lt e.1 k = false := fun e he => by
  induction es with
  | nil => cases he
  | cons a es ih =>
    have hs' := List.pairwise_cons.1 hs
    cases h : lt a.1 k with
    | true => rw [up_t h] at he; exact ih hs'.2 he
    | false =>
      rw [up_f h] at he
      rcases List.mem_cons.1 he with rfl | he
      · simpa using h
      · have h1 := hs'.1 e he
        cases h2 : lt e.1 k with
        | false => rfl
        | true => exact absurd (o.trans h1 h2) (by rw [h]; simp)
theorem past_gt [DecidableEq K] {k : K} : ∀ e ∈ past (up lt es k) k, lt k e.1 = true := fun e he => by
  have hu := up_ge o hs (k := k)
  have hsu : Srt lt (up lt es k) := List.Pairwise.sublist (List.dropWhile_sublist _) hs
  generalize up lt es k = l at hu hsu he
  cases l with
  | nil => cases he
  | cons a l =>
    have hs' := List.pairwise_cons.1 hsu
    have hrest : ∀ x ∈ l, lt a.1 x.1 = true := hs'.1
    by_cases ha : a.1 = k
    · rw [past_t ha] at he
      have hp : past l k = l := by
        cases l with
        | nil => rfl
        | cons b l => rw [past_f]; have := o.ne (hrest b (.head _)); rw [ha] at this; exact this.symm
      rw [hp] at he
      rw [← ha]
      exact hrest e he
    · rw [past_f ha] at he
      have hak : lt k a.1 = true := by
        rcases o.total ha with h | h
        · rw [hu a (.head _)] at h; cases h
        · exact h
      rcases List.mem_cons.1 he with rfl | he
      · exact hak
      · exact o.trans hak (hrest e he)
theorem ins_srt [DecidableEq K] (k : K) (v : V) : Srt lt (ins lt es k v) := by
  have h1 := past_gt o hs (k := k)
  have h2 : Srt lt (low lt es k) := List.Pairwise.sublist (List.takeWhile_sublist _) hs
  have h3 : Srt lt (past (up lt es k) k) := List.Pairwise.sublist ((List.dropWhile_sublist _).trans (List.dropWhile_sublist _)) hs
  have h4 := low_all (lt := lt) (es := es) (k := k)
  unfold Srt ins
  rw [List.pairwise_append, List.pairwise_cons]
  refine ⟨h2, ⟨h1, h3⟩, fun a ha b hb => ?_⟩
  rcases List.mem_cons.1 hb with rfl | hb
  · exact h4 a ha
  · exact o.trans (h4 a ha) (h1 b hb)
theorem del_srt [DecidableEq K] (k : K) : Srt lt (del lt es k) := by
  have h1 := past_gt o hs (k := k)
  have h2 : Srt lt (low lt es k) := List.Pairwise.sublist (List.takeWhile_sublist _) hs
  have h3 : Srt lt (past (up lt es k) k) := List.Pairwise.sublist ((List.dropWhile_sublist _).trans (List.dropWhile_sublist _)) hs
  have h4 := low_all (lt := lt) (es := es) (k := k)
  unfold Srt del
  rw [List.pairwise_append]
  exact ⟨h2, h3, fun a ha b hb => o.trans (h4 a ha) (h1 b hb)⟩
end
end


section
variable {K V : Type} {lt : K → K → Bool}

/-- the first key of a list -/
def hd (d : K) (es : List (K × V)) : K := match es with | [] => d | e :: _ => e.1
/-- how many children stand ahead of the first one whose first key the key stands ahead of -/
def cut (lt : K → K → Bool) (d : K) (ks : List (List (K × V))) (k : K) : Nat := (ks.takeWhile fun es => !lt k (hd d es)).length
theorem cut_le (d : K) (ks : List (List (K × V))) (k : K) : cut lt d ks k ≤ ks.length := (List.takeWhile_sublist _).length_le
theorem cut_lo {d : K} {ks : List (List (K × V))} {k : K} {i : Nat} {es : List (K × V)} (hi : i < cut lt d ks k) (he : ks[i]? = some es) : lt k (hd d es) = false := by
  induction ks generalizing i with
  | nil => cases he
  | cons a ks ih =>
    unfold cut at hi ih
    rw [List.takeWhile_cons] at hi
    split at hi
    · rename_i h
      cases i with
      | zero => simp only [List.getElem?_cons_zero, Option.some.injEq] at he; subst he; simpa using h
      | succ i => exact ih (by simpa using hi) (by simpa using he)
    · simp at hi
theorem cut_hi {d : K} {ks : List (List (K × V))} {k : K} {es : List (K × V)} (he : ks[cut lt d ks k]? = some es) : lt k (hd d es) = true := by
  induction ks with
  | nil => cases he
  | cons a ks ih =>
    unfold cut at he ih
    rw [List.takeWhile_cons] at he
    split at he
    · exact ih (by simpa using he)
    · rename_i h
      simp only [List.length_nil, List.getElem?_cons_zero, Option.some.injEq] at he
      subst he
      simpa using h

variable (o : Ord lt)
include o
/-- the children of a branch: each has something, together they stand in the order -/
def Kids (lt : K → K → Bool) (ks : List (List (K × V))) : Prop := (∀ es ∈ ks, es ≠ []) ∧ Srt lt ks.flatten
omit o in
theorem Kids.tail {a : List (K × V)} {ks : List (List (K × V))} (h : Kids lt (a :: ks)) : Kids lt ks :=
  ⟨fun es he => h.1 es (.tail _ he), by have := h.2; rw [List.flatten_cons] at this; exact List.Pairwise.sublist (List.sublist_append_right _ _) this⟩
omit o in
theorem hd_mem {d : K} {es : List (K × V)} (h : es ≠ []) : ∃ e ∈ es, e.1 = hd d es := by
  cases es with
  | nil => exact absurd rfl h
  | cons e es => exact ⟨e, .head _, rfl⟩
theorem hd_le {d : K} {es : List (K × V)} (hs : Srt lt es) : ∀ e ∈ es, lt e.1 (hd d es) = false := fun e he => by
  cases es with
  | nil => cases he
  | cons a es =>
    rcases List.mem_cons.1 he with rfl | he
    · exact o.irrefl _
    · exact o.asymm ((List.pairwise_cons.1 hs).1 e he)
/-- not ahead and not behind -/
theorem le_lt {a b c : K} (h : lt b a = false) (h2 : lt b c = true) : lt a c = true := by
  by_cases e : a = b
  · rw [e]; exact h2
  · rcases o.total e with h3 | h3
    · exact o.trans h3 h2
    · rw [h] at h3; cases h3
theorem lt_le {a b c : K} (h : lt a b = true) (h2 : lt c b = false) : lt a c = true := by
  by_cases e : c = b
  · rw [e]; exact h
  · rcases o.total e with h3 | h3
    · rw [h2] at h3; cases h3
    · exact o.trans h h3
theorem kids_at {ks : List (List (K × V))} (hk : Kids lt ks) (d k : K) (hn : ks ≠ []) :
    cut lt d ks k - 1 < ks.length ∧ (∀ e ∈ (ks.take (cut lt d ks k - 1)).flatten, lt e.1 k = true) ∧ (∀ e ∈ (ks.drop (cut lt d ks k - 1 + 1)).flatten, lt k e.1 = true) := by
  have hpos : 0 < ks.length := List.length_pos_iff.2 hn
  have hle := cut_le (lt := lt) d ks k
  obtain ⟨c, hc⟩ : ∃ c, c = cut lt d ks k := ⟨_, rfl⟩
  have hlo : ∀ i es, i < c → ks[i]? = some es → lt k (hd d es) = false := fun i es hi he => cut_lo (hc ▸ hi) he
  have hhi : ∀ es, ks[c]? = some es → lt k (hd d es) = true := fun es he => cut_hi (hc ▸ he)
  rw [← hc] at hle ⊢
  have hsplit : ∀ i, (ks.take i).flatten ++ (ks.drop i).flatten = ks.flatten := fun i => by rw [← List.flatten_append, List.take_append_drop]
  have hord : ∀ i, ∀ x ∈ (ks.take i).flatten, ∀ y ∈ (ks.drop i).flatten, lt x.1 y.1 = true := fun i => by
    have h := hk.2
    rw [← hsplit i] at h
    exact (List.pairwise_append.1 h).2.2
  have hsub : ∀ i, Srt lt (ks.drop i).flatten := fun i => by
    have h := hk.2
    rw [← hsplit i] at h
    exact (List.pairwise_append.1 h).2.1
  refine ⟨by omega, fun e he => ?_, fun e he => ?_⟩
  · -- ahead of the child
    rcases Nat.eq_zero_or_pos c with h0 | h0
    · rw [h0] at he; simp at he
    · have hlt : c - 1 < ks.length := by omega
      obtain ⟨es, hes⟩ : ∃ es, ks[c - 1]? = some es := ⟨_, List.getElem?_eq_getElem hlt⟩
      obtain ⟨x, hx, hxe⟩ := hd_mem (d := d) (hk.1 es (List.mem_of_getElem? hes))
      have hxm : x ∈ (ks.drop (c - 1)).flatten := by
        rw [List.mem_flatten]
        refine ⟨es, ?_, hx⟩
        rw [List.mem_iff_getElem?]
        exact ⟨0, by rw [List.getElem?_drop, Nat.add_zero]; exact hes⟩
      have h1 := hord (c - 1) e he x hxm
      rw [hxe] at h1
      exact lt_le o h1 (hlo (c - 1) es (by omega) hes)
  · -- behind the child
    rcases Nat.eq_zero_or_pos c with h0 | h0
    · -- all stand behind the first one, whose first key the key stands ahead of
      subst h0
      obtain ⟨es, hes⟩ : ∃ es, ks[0]? = some es := ⟨_, List.getElem?_eq_getElem hpos⟩
      have h1 := hhi es hes
      obtain ⟨x, hx, hxe⟩ := hd_mem (d := d) (hk.1 es (List.mem_of_getElem? hes))
      have hxm : x ∈ (ks.take (0 - 1 + 1)).flatten := by
        cases ks with
        | nil => cases hes
        | cons a ks =>
          simp only [List.getElem?_cons_zero, Option.some.injEq] at hes
          subst hes
          simpa using hx
      have h2 := hord (0 - 1 + 1) x hxm e he
      rw [hxe] at h2
      exact o.trans h1 h2
    · have e1 : c - 1 + 1 = c := by omega
      rw [e1] at he
      by_cases hcl : c < ks.length
      · obtain ⟨es, hes⟩ : ∃ es, ks[c]? = some es := ⟨_, List.getElem?_eq_getElem hcl⟩
        have h1 := hhi es hes
        have hd1 : ks.drop c = es :: ks.drop (c + 1) := by
          rw [List.drop_eq_getElem_cons hcl]
          congr 1
          rw [List.getElem?_eq_getElem hcl] at hes
          exact Option.some.inj hes
        have hh : hd d (ks.drop c).flatten = hd d es := by
          rw [hd1, List.flatten_cons]
          have := hk.1 es (List.mem_of_getElem? hes)
          cases es with
          | nil => exact absurd rfl this
          | cons a es => rfl
        have h2 := hd_le o (d := d) (hsub c) e he
        rw [hh] at h2
        exact lt_le o h1 h2
      · rw [List.drop_eq_nil_of_le (by omega)] at he
        cases he
end


section
variable {K V : Type} {lt : K → K → Bool}

/-- child i is replaced -/
def put (ks : List (List (K × V))) (i : Nat) (bs : List (List (K × V))) : List (List (K × V)) := ks.take i ++ bs ++ ks.drop (i + 1)
theorem flat_put (ks : List (List (K × V))) (i : Nat) (bs : List (List (K × V))) : (put ks i bs).flatten = (ks.take i).flatten ++ bs.flatten ++ (ks.drop (i + 1)).flatten := by
  unfold put
  rw [List.flatten_append, List.flatten_append]
theorem flat_at {ks : List (List (K × V))} {i : Nat} {b : List (K × V)} (hi : ks[i]? = some b) : ks.flatten = (ks.take i).flatten ++ b ++ (ks.drop (i + 1)).flatten := by
  have h := List.getElem?_eq_some_iff.1 hi
  conv => lhs; rw [← List.take_append_drop i ks, List.flatten_append, List.drop_eq_getElem_cons h.1, List.flatten_cons, h.2]
  rw [List.append_assoc]
theorem len_put {ks : List (List (K × V))} {i : Nat} (hi : i < ks.length) (bs : List (List (K × V))) : (put ks i bs).length = ks.length - 1 + bs.length := by
  unfold put
  rw [List.length_append, List.length_append, List.length_take, List.length_drop]
  omega
variable (o : Ord lt)
include o
theorem put_ins [DecidableEq K] {ks : List (List (K × V))} (hk : Kids lt ks) {d k : K} {v : V} {b : List (K × V)} {bs : List (List (K × V))} (hi : ks[cut lt d ks k - 1]? = some b) (hb : bs.flatten = ins lt b k v) (hne : ∀ es ∈ bs, es ≠ []) :
    Kids lt (put ks (cut lt d ks k - 1) bs) ∧ (put ks (cut lt d ks k - 1) bs).flatten = ins lt ks.flatten k v := by
  have hn : ks ≠ [] := by rintro rfl; cases hi
  obtain ⟨h1, h2, h3⟩ := kids_at o hk d k hn
  have e : (put ks (cut lt d ks k - 1) bs).flatten = ins lt ks.flatten k v := by
    rw [flat_put, hb, flat_at hi, ins_mid o h2 h3]
  refine ⟨⟨fun es he => ?_, ?_⟩, e⟩
  · unfold put at he
    rcases List.mem_append.1 he with he | he
    · rcases List.mem_append.1 he with he | he
      · exact hk.1 es (List.mem_of_mem_take he)
      · exact hne es he
    · exact hk.1 es (List.mem_of_mem_drop he)
  · rw [e]
    exact ins_srt o hk.2 k v
theorem put_del [DecidableEq K] {ks : List (List (K × V))} (hk : Kids lt ks) {d k : K} {b : List (K × V)} {bs : List (List (K × V))} (hi : ks[cut lt d ks k - 1]? = some b) (hb : bs.flatten = del lt b k) (hne : ∀ es ∈ bs, es ≠ []) :
    Kids lt (put ks (cut lt d ks k - 1) bs) ∧ (put ks (cut lt d ks k - 1) bs).flatten = del lt ks.flatten k := by
  have hn : ks ≠ [] := by rintro rfl; cases hi
  obtain ⟨h1, h2, h3⟩ := kids_at o hk d k hn
  have e : (put ks (cut lt d ks k - 1) bs).flatten = del lt ks.flatten k := by
    rw [flat_put, hb, flat_at hi, del_mid o h2 h3]
  refine ⟨⟨fun es he => ?_, ?_⟩, e⟩
  · unfold put at he
    rcases List.mem_append.1 he with he | he
    · rcases List.mem_append.1 he with he | he
      · exact hk.1 es (List.mem_of_mem_take he)
      · exact hne es he
    · exact hk.1 es (List.mem_of_mem_drop he)
  · rw [e]
    exact del_srt o hk.2 k
theorem look_kid [DecidableEq K] {ks : List (List (K × V))} (hk : Kids lt ks) {d k : K} {b : List (K × V)} (hi : ks[cut lt d ks k - 1]? = some b) : look lt ks.flatten k = look lt b k := by
  have hn : ks ≠ [] := by rintro rfl; cases hi
  obtain ⟨h1, h2, h3⟩ := kids_at o hk d k hn
  rw [flat_at hi, look_mid o h2 h3]
/-- where a key stands, or would stand -/
theorem at_kid {ks : List (List (K × V))} (hk : Kids lt ks) {d k : K} {b : List (K × V)} (hi : ks[cut lt d ks k - 1]? = some b) : at_ lt ks.flatten k = ((ks.take (cut lt d ks k - 1)).flatten).length + at_ lt b k := by
  have hn : ks ≠ [] := by rintro rfl; cases hi
  obtain ⟨h1, h2, h3⟩ := kids_at o hk d k hn
  unfold at_
  rw [flat_at hi, List.append_assoc, low_app h2, low_off (fun e he => o.asymm (h3 e he)), List.length_append]
omit o in
theorem Kids.cut {ks : List (List (K × V))} (hk : Kids lt ks) (i : Nat) : Kids lt (ks.take i) ∧ Kids lt (ks.drop i) := by
  have e : (ks.take i).flatten ++ (ks.drop i).flatten = ks.flatten := by rw [← List.flatten_append, List.take_append_drop]
  have h := hk.2
  rw [← e] at h
  have h := List.pairwise_append.1 h
  exact ⟨⟨fun es he => hk.1 es (List.mem_of_mem_take he), h.1⟩, ⟨fun es he => hk.1 es (List.mem_of_mem_drop he), h.2.1⟩⟩

omit o in
theorem take_at (es : List (K × V)) (k : K) : es.take (at_ lt es k) = low lt es k ∧ es.drop (at_ lt es k) = up lt es k := by
  have h := low_up (lt := lt) es k
  unfold at_
  constructor
  · conv => lhs; arg 2; rw [← h]
    exact List.take_left
  · conv => lhs; arg 2; rw [← h]
    exact List.drop_left
omit o in
theorem at_le (es : List (K × V)) (k : K) : at_ lt es k ≤ es.length := by
  have h := congrArg List.length (low_up (lt := lt) es k)
  rw [List.length_append] at h
  unfold at_
  omega
omit o in
theorem at_lo {es : List (K × V)} {k : K} {i : Nat} {e : K × V} (hi : i < at_ lt es k) (he : es[i]? = some e) : lt e.1 k = true := by
  refine low_all (es := es) e ?_
  rw [← (take_at es k).1, List.mem_iff_getElem?]
  exact ⟨i, by rw [List.getElem?_take, if_pos hi]; exact he⟩
omit o in
theorem at_hi {es : List (K × V)} {k : K} {e : K × V} (he : es[at_ lt es k]? = some e) : lt e.1 k = false := by
  induction es with
  | nil => cases he
  | cons a es ih =>
    cases h : lt a.1 k with
    | true =>
      unfold at_ at he ih
      rw [low_t h] at he
      exact ih (by simpa using he)
    | false =>
      unfold at_ at he
      rw [low_f h] at he
      simp only [List.length_nil, List.getElem?_cons_zero, Option.some.injEq] at he
      subst he
      exact h
/-- the key is there, or it is not -/
theorem at_look [DecidableEq K] {es : List (K × V)} (hs : Srt lt es) (k : K) : (∀ x, look lt es k = some x → es[at_ lt es k]? = some (k, x) ∧ past (up lt es k) k = es.drop (at_ lt es k + 1)) ∧
    (look lt es k = none → (∀ e, es[at_ lt es k]? = some e → e.1 ≠ k) ∧ past (up lt es k) k = es.drop (at_ lt es k)) := by
  have h1 := (take_at (lt := lt) es k).2
  have h2 : es[at_ lt es k]? = (up lt es k).head? := by rw [← h1, List.head?_drop]
  have h3 : es.drop (at_ lt es k + 1) = (up lt es k).tail := by rw [← h1, List.tail_drop]
  have hsu : Srt lt (up lt es k) := List.Pairwise.sublist (List.dropWhile_sublist _) hs
  rw [h1, h2, h3]
  unfold look
  generalize up lt es k = l at hsu ⊢
  cases l with
  | nil => exact ⟨nofun, fun _ => ⟨nofun, rfl⟩⟩
  | cons a l =>
    by_cases ha : a.1 = k
    · have hf : ((a :: l).head?.filter fun e => decide (e.1 = k)) = some a := by
        show Option.filter _ (some a) = _
        rw [Option.filter_some, if_pos (by simpa using ha)]
      rw [hf]
      refine ⟨fun x hx => ?_, nofun⟩
      have hx : a.2 = x := Option.some.inj hx
      refine ⟨by rw [← ha, ← hx]; rfl, ?_⟩
      rw [past_t ha]
      cases l with
      | nil => rfl
      | cons b l =>
        have h4 := (List.pairwise_cons.1 hsu).1 b (.head _)
        have h5 := o.ne h4
        rw [ha] at h5
        exact past_f (Ne.symm h5)
    · have hf : ((a :: l).head?.filter fun e => decide (e.1 = k)) = none := by
        show Option.filter _ (some a) = _
        rw [Option.filter_some, if_neg (by simpa using ha)]
      rw [hf]
      refine ⟨nofun, fun _ => ⟨fun e he => ?_, past_f ha⟩⟩
      simp only [List.head?_cons, Option.some.injEq] at he
      rw [← he]
      exact ha
theorem ins_new [DecidableEq K] {es : List (K × V)} (hs : Srt lt es) {k : K} (v : V) (h : look lt es k = none) : ins lt es k v = es.take (at_ lt es k) ++ (k, v) :: es.drop (at_ lt es k) := by
  unfold ins
  rw [((at_look o hs k).2 h).2, (take_at es k).1]
theorem ins_old [DecidableEq K] {es : List (K × V)} (hs : Srt lt es) {k : K} (v : V) {x : V} (h : look lt es k = some x) : ins lt es k v = es.take (at_ lt es k) ++ (k, v) :: es.drop (at_ lt es k + 1) := by
  unfold ins
  rw [((at_look o hs k).1 x h).2, (take_at es k).1]
theorem del_new [DecidableEq K] {es : List (K × V)} (hs : Srt lt es) {k : K} (h : look lt es k = none) : del lt es k = es := by
  unfold del
  rw [((at_look o hs k).2 h).2, ← (take_at es k).1, List.take_append_drop]
theorem del_old [DecidableEq K] {es : List (K × V)} (hs : Srt lt es) {k : K} {x : V} (h : look lt es k = some x) : del lt es k = es.take (at_ lt es k) ++ es.drop (at_ lt es k + 1) := by
  unfold del
  rw [((at_look o hs k).1 x h).2, (take_at es k).1]
end


/-- the orders: 2 falling, 3 even ones ahead of odd ones, all others rising -/
def ltO (o : Nat) (a b : Int) : Bool :=
  if o = 2 then decide (b < a)
  else if o = 3 then (if decide (a % 2 = 0) = decide (b % 2 = 0) then decide (a < b) else decide (a % 2 = 0))
  else decide (a < b)
theorem ltO_two (a b : Int) : ltO 2 a b = decide (b < a) := rfl
theorem ltO_three (a b : Int) : ltO 3 a b = if decide (a % 2 = 0) = decide (b % 2 = 0) then decide (a < b) else decide (a % 2 = 0) := rfl
theorem ltO_else {o : Nat} (h2 : o ≠ 2) (h3 : o ≠ 3) (a b : Int) : ltO o a b = decide (a < b) := by unfold ltO; rw [if_neg h2, if_neg h3]
theorem ltO_true {o : Nat} {a b : Int} : ltO o a b = true ↔ (o = 2 ∧ b < a) ∨ (o = 3 ∧ ((a % 2 = b % 2 ∧ a < b) ∨ (a % 2 = 0 ∧ b % 2 ≠ 0))) ∨ (o ≠ 2 ∧ o ≠ 3 ∧ a < b) := by
  by_cases h2 : o = 2
  · subst h2; rw [ltO_two]; simp
  by_cases h3 : o = 3
  · subst h3
    rw [ltO_three]
    by_cases ha : a % 2 = 0 <;> by_cases hb : b % 2 = 0 <;> simp [ha, hb] <;> omega
  · rw [ltO_else h2 h3]; simp [h2, h3]
theorem ord_ltO (o : Nat) : Ord (ltO o) where
  irrefl a := by
    cases h : ltO o a a with
    | false => rfl
    | true => rw [ltO_true] at h; omega
  trans := fun {a b c} h1 h2 => by rw [ltO_true] at h1 h2 ⊢; omega
  total := fun {a b} h => by rw [ltO_true, ltO_true]; omega
/-- what a comparer tells -/
def cmpO (o : Nat) (a b : Int) : Int := if ltO o a b = true then -1 else if ltO o b a = true then 1 else 0
theorem cmp_lo {o : Nat} {a b : Int} (h : ltO o a b = true) : cmpO o a b = -1 := by unfold cmpO; rw [if_pos h]
theorem cmp_hi {o : Nat} {a b : Int} (h : ltO o b a = true) : cmpO o a b = 1 := by unfold cmpO; rw [if_neg (by rw [(ord_ltO o).asymm h]; simp), if_pos h]
theorem cmp_eq (o : Nat) (a : Int) : cmpO o a a = 0 := by unfold cmpO; rw [(ord_ltO o).irrefl]; rfl
theorem cmp_one {o : Nat} {a b : Int} : cmpO o a b = 1 ↔ ltO o b a = true := by
  constructor
  · intro h
    unfold cmpO at h
    split at h
    · omega
    · split at h
      · assumption
      · omega
  · exact cmp_hi
theorem cmp_neg {o : Nat} {a b : Int} : cmpO o a b = -1 ↔ ltO o a b = true := by
  constructor
  · intro h
    unfold cmpO at h
    split at h
    · assumption
    · split at h <;> omega
  · exact cmp_lo
theorem cmp_zero {o : Nat} {a b : Int} : cmpO o a b = 0 ↔ a = b := by
  constructor
  · intro h
    by_cases e : a = b
    · exact e
    · exfalso
      rcases (ord_ltO o).total e with h1 | h1
      · rw [cmp_lo h1] at h; omega
      · rw [cmp_hi h1] at h; omega
  · rintro rfl; exact cmp_eq o a
theorem cmp_range (o : Nat) (a b : Int) : -1 ≤ cmpO o a b ∧ cmpO o a b ≤ 1 := by
  unfold cmpO
  split
  · omega
  · split <;> omega
end Go.Proofs.Ytefigjdebakccaa
