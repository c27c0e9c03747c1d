/- Maps that are filled with keys, as lists of pairs in an order: their members, their order. No program here. Conditions of this file: none. -/
import Derived.Test.YtefigjdebakccaaOrd
namespace Go.Proofs.Ytefigjdebakccaa

section
variable {K V : Type} [DecidableEq K] {lt : K → K → Bool}

theorem mem_ins (o : Ord lt) {es : List (K × V)} (hs : Srt lt es) (k : K) (v : V) (e : K × V) : e ∈ ins lt es k v ↔ e = (k, v) ∨ (e ∈ es ∧ e.1 ≠ k) := by
  unfold ins
  rw [List.mem_append, List.mem_cons]
  constructor
  · rintro (h | h | h)
    · refine .inr ⟨?_, o.ne (low_all e h)⟩
      rw [← low_up (lt := lt) es k]
      exact List.mem_append_left _ h
    · exact .inl h
    · refine .inr ⟨?_, (o.ne (past_gt o hs e h)).symm⟩
      rw [← low_up (lt := lt) es k]
      exact List.mem_append_right _ ((List.dropWhile_sublist _).subset h)
  · rintro (h | ⟨h, h2⟩)
    · exact .inr (.inl h)
    · rw [← low_up (lt := lt) es k] at h
      rcases List.mem_append.1 h with h | h
      · exact .inl h
      · refine .inr (.inr ?_)
        unfold past
        have h3 : up lt es k = (up lt es k).takeWhile (fun e => decide (e.1 = k)) ++ (up lt es k).dropWhile (fun e => decide (e.1 = k)) := List.takeWhile_append_dropWhile.symm
        rw [h3] at h
        rcases List.mem_append.1 h with h | h
        · have := List.all_eq_true.1 List.all_takeWhile _ h
          exact absurd (by simpa using this) h2
        · exact h
theorem mem_del (o : Ord lt) {es : List (K × V)} (hs : Srt lt es) (k : K) (e : K × V) : e ∈ del lt es k ↔ e ∈ es ∧ e.1 ≠ k := by
  unfold del
  rw [List.mem_append]
  constructor
  · rintro (h | h)
    · refine ⟨?_, o.ne (low_all e h)⟩
      rw [← low_up (lt := lt) es k]
      exact List.mem_append_left _ h
    · refine ⟨?_, (o.ne (past_gt o hs e h)).symm⟩
      rw [← low_up (lt := lt) es k]
      exact List.mem_append_right _ ((List.dropWhile_sublist _).subset h)
  · rintro ⟨h, h2⟩
    rw [← low_up (lt := lt) es k] at h
    rcases List.mem_append.1 h with h | h
    · exact .inl h
    · refine .inr ?_
      unfold past
      have h3 : up lt es k = (up lt es k).takeWhile (fun e => decide (e.1 = k)) ++ (up lt es k).dropWhile (fun e => decide (e.1 = k)) := List.takeWhile_append_dropWhile.symm
      rw [h3] at h
      rcases List.mem_append.1 h with h | h
      · have := List.all_eq_true.1 List.all_takeWhile _ h
        exact absurd (by simpa using this) h2
      · exact h
end
/-- lists in an order: one just if their members are -/
theorem pw_ext {A : Type} {r : A → A → Prop} (hi : ∀ a, ¬ r a a) (ht : ∀ {a b c}, r a b → r b c → r a c) : ∀ {l m : List A}, l.Pairwise r → m.Pairwise r → (∀ a, a ∈ l ↔ a ∈ m) → l = m
  | [], [], _, _, _ => rfl
  | [], b :: m, _, _, h => by have := (h b).2 (.head _); cases this
  | a :: l, [], _, _, h => by have := (h a).1 (.head _); cases this
  | a :: l, b :: m, hl, hm, h => by
    have hl' := List.pairwise_cons.1 hl
    have hm' := List.pairwise_cons.1 hm
    have hab : a = b := by
      rcases List.mem_cons.1 ((h a).1 (.head _)) with e | h1
      · exact e
      · rcases List.mem_cons.1 ((h b).2 (.head _)) with e | h2
        · exact e.symm
        · exact absurd (ht (hm'.1 a h1) (hl'.1 b h2)) (hi b)
    subst hab
    rw [pw_ext hi ht hl'.2 hm'.2 fun x => ?_]
    constructor
    · intro hx
      rcases List.mem_cons.1 ((h x).1 (.tail _ hx)) with rfl | h1
      · exact absurd (hl'.1 x hx) (hi x)
      · exact h1
    · intro hx
      rcases List.mem_cons.1 ((h x).2 (.tail _ hx)) with rfl | h1
      · exact absurd (hm'.1 x hx) (hi x)
      · exact h1
theorem srt_ext {K V : Type} {lt : K → K → Bool} (o : Ord lt) {l m : List (K × V)} (hl : Srt lt l) (hm : Srt lt m) (h : ∀ e, e ∈ l ↔ e ∈ m) : l = m :=
  pw_ext (A := K × V) (r := fun a b => lt a.1 b.1 = true) (fun a => by rw [o.irrefl]; simp) (fun {a b c} (h1 : lt a.1 b.1 = true) (h2 : lt b.1 c.1 = true) => o.trans h1 h2) hl hm h
/-- keys in an order -/
def SrtK {K : Type} (lt : K → K → Bool) (ks : List K) : Prop := ks.Pairwise fun a b => lt a b = true
theorem srtK_of {K V : Type} {lt : K → K → Bool} {l : List (K × V)} (hl : Srt lt l) : SrtK lt (l.map (·.1)) := List.pairwise_map.2 hl
theorem srtK_ext {K : Type} {lt : K → K → Bool} (o : Ord lt) {l m : List K} (hl : SrtK lt l) (hm : SrtK lt m) (h : ∀ e, e ∈ l ↔ e ∈ m) : l = m :=
  pw_ext (A := K) (r := fun a b => lt a b = true) (fun a => by rw [o.irrefl]; simp) (fun {a b c} (h1 : lt a b = true) (h2 : lt b c = true) => o.trans h1 h2) hl hm h

/-- keys set one behind the other, with their places -/
def fill (lt : Int → Int → Bool) : Nat → List Int → List (Int × Int) → List (Int × Int)
  | _, [], es => es
  | i, x :: xs, es => fill lt (i + 1) xs (ins lt es x (i : Int))
def fmem : Nat → List Int → (Int × Int → Prop) → Int × Int → Prop
  | _, [], S => S
  | i, x :: xs, S => fmem (i + 1) xs fun e => e = (x, (i : Int)) ∨ (S e ∧ e.1 ≠ x)
section
variable {lt : Int → Int → Bool} (o : Ord lt)
include o
theorem fill_srt : ∀ (xs : List Int) (i : Nat) {es : List (Int × Int)}, Srt lt es → Srt lt (fill lt i xs es)
  | [], _, _, h => h
  | x :: xs, i, _, h => fill_srt xs (i + 1) (ins_srt o h x _)
omit o in
theorem fmem_iff : ∀ (xs : List Int) (i : Nat) {S T : Int × Int → Prop}, (∀ e, S e ↔ T e) → ∀ e, fmem i xs S e ↔ fmem i xs T e
  | [], _, _, _, h => h
  | x :: xs, i, _, _, h => fmem_iff xs (i + 1) fun e => by rw [h e]
theorem mem_fill : ∀ (xs : List Int) (i : Nat) {es : List (Int × Int)}, Srt lt es → ∀ e, e ∈ fill lt i xs es ↔ fmem i xs (· ∈ es) e
  | [], _, _, _, _ => Iff.rfl
  | x :: xs, i, _, h, e => (mem_fill xs (i + 1) (ins_srt o h x _) e).trans (fmem_iff xs (i + 1) (mem_ins o h x _) e)
theorem key_fill : ∀ (xs : List Int) (i : Nat) {es : List (Int × Int)}, Srt lt es → ∀ k, k ∈ (fill lt i xs es).map (·.1) ↔ k ∈ xs ∨ k ∈ es.map (·.1)
  | [], _, _, _, _ => by simp [fill]
  | x :: xs, i, es, h, k => by
    have ih := key_fill xs (i + 1) (ins_srt o h x (i : Int)) k
    show k ∈ (fill lt (i + 1) xs (ins lt es x (i : Int))).map (·.1) ↔ _
    rw [ih, List.mem_cons]
    have e1 : k ∈ (ins lt es x (i : Int)).map (·.1) ↔ k = x ∨ k ∈ es.map (·.1) := by
      constructor
      · intro hk
        obtain ⟨e, he, rfl⟩ := List.mem_map.1 hk
        rcases (mem_ins o h x _ e).1 he with rfl | ⟨h1, -⟩
        · exact .inl rfl
        · exact .inr (List.mem_map.2 ⟨e, h1, rfl⟩)
      · intro hk
        by_cases hx : k = x
        · subst hx
          exact List.mem_map.2 ⟨(k, (i : Int)), (mem_ins o h k _ _).2 (.inl rfl), rfl⟩
        · rcases hk with hk | hk
          · exact absurd hk hx
          · obtain ⟨e, he, rfl⟩ := List.mem_map.1 hk
            exact List.mem_map.2 ⟨e, (mem_ins o h x _ e).2 (.inr ⟨he, hx⟩), rfl⟩
    rw [e1]
    constructor
    · rintro (h1 | h1 | h1)
      · exact .inl (.inr h1)
      · exact .inl (.inl h1)
      · exact .inr h1
    · rintro ((h1 | h1) | h1)
      · exact .inr (.inl h1)
      · exact .inl h1
      · exact .inr (.inr h1)
theorem keys_fill (xs : List Int) (k : Int) : k ∈ (fill lt 0 xs []).map (·.1) ↔ k ∈ xs := by
  rw [key_fill o xs 0 List.Pairwise.nil]; simp
/-- the order in which keys are set plays no part -/
theorem fill_mixed {xs ys : List Int} (h : ∀ k, k ∈ xs ↔ k ∈ ys) : (fill lt 0 xs []).map (·.1) = (fill lt 0 ys []).map (·.1) :=
  srtK_ext o (srtK_of (fill_srt o xs 0 List.Pairwise.nil)) (srtK_of (fill_srt o ys 0 List.Pairwise.nil)) fun k => by rw [keys_fill o, keys_fill o, h]
/-- the keys ahead of a key, and the others -/
theorem fill_halves (xs : List Int) (key : Int) : (fill lt 0 (xs.filter fun k => lt k key) []).map (·.1) ++ (fill lt 0 (xs.filter fun k => !lt k key) []).map (·.1) = (fill lt 0 xs []).map (·.1) := by
  refine srtK_ext o ?_ (srtK_of (fill_srt o xs 0 List.Pairwise.nil)) fun k => ?_
  · unfold SrtK
    rw [List.pairwise_append]
    refine ⟨srtK_of (fill_srt o _ 0 List.Pairwise.nil), srtK_of (fill_srt o _ 0 List.Pairwise.nil), fun a ha b hb => ?_⟩
    rw [keys_fill o, List.mem_filter] at ha hb
    exact lt_le o ha.2 (by simpa using hb.2)
  · rw [List.mem_append, keys_fill o, keys_fill o, keys_fill o, List.mem_filter, List.mem_filter]
    constructor
    · rintro (h | h) <;> exact h.1
    · intro h
      cases h1 : lt k key with
      | true => exact .inl ⟨h, rfl⟩
      | false => exact .inr ⟨h, by simp⟩
theorem fill_len : ∀ (xs : List Int) (i : Nat) {es : List (Int × Int)}, Srt lt es → (fill lt i xs es).length ≤ es.length + xs.length
  | [], _, _, _ => Nat.le_refl _
  | x :: xs, i, es, h => by
    have h1 := fill_len xs (i + 1) (ins_srt o h x (i : Int))
    have h2 : (ins lt es x (i : Int)).length ≤ es.length + 1 := by
      unfold ins
      have h3 := congrArg List.length (low_up (lt := lt) es x)
      have h4 := ((List.dropWhile_sublist (l := up lt es x) fun e => decide (e.1 = x))).length_le
      rw [List.length_append] at h3
      rw [List.length_append, List.length_cons]
      unfold past
      omega
    show (fill lt (i + 1) xs (ins lt es x (i : Int))).length ≤ es.length + (xs.length + 1)
    omega
end
/-- an order turned round -/
theorem fill_turned {lt lt' : Int → Int → Bool} (o : Ord lt) (o' : Ord lt') (h : ∀ a b, lt' a b = lt b a) (xs : List Int) : fill lt' 0 xs [] = (fill lt 0 xs []).reverse :=
  srt_ext o' (fill_srt o' xs 0 List.Pairwise.nil) (by
    unfold Srt
    rw [List.pairwise_reverse]
    refine (fill_srt o xs 0 List.Pairwise.nil).imp fun {a b} hab => ?_
    rw [h]; exact hab) fun e => by
    rw [mem_fill o' xs 0 List.Pairwise.nil, List.mem_reverse, mem_fill o xs 0 List.Pairwise.nil]
theorem fill_falling (xs : List Int) : fill (ltO 2) 0 xs [] = (fill (ltO 1) 0 xs []).reverse :=
  fill_turned (ord_ltO 1) (ord_ltO 2) (fun a b => by rw [ltO_two, ltO_else (by decide) (by decide)]) xs
theorem ltO_zero : ltO 0 = ltO 1 := by
  funext a b
  rw [ltO_else (by decide) (by decide), ltO_else (by decide) (by decide)]
end Go.Proofs.Ytefigjdebakccaa
