/- The walk over the law FnMapUndone. -/
import Derived.Test.YtpkndcmgialgcaaMEq
namespace Go.Proofs.Ytpkndcmgialgcaa
open Go.RowKit Go.Maps

section
variable {h : Int → Nat}
theorem versM_cons (s : Stp) (l : List Stp) (vs : List (MS Int Int)) : versM h (s :: l) vs = versM h l (vs ++ [s.make h vs]) := rfl
theorem make_of {s : Stp} {vs : List (MS Int Int)} {m : MS Int Int} (hok : s.ok vs.length = true) (hm : vs[s.F.toNat]? = some m) : s.make h vs = s.act h m := by
  unfold Stp.make
  rw [if_pos hok, List.getD_eq_getElem?_getD, hm]
  rfl
/-- k is a key of the first n -/
def KeyIn (s : Stp) (n : Nat) (k : Int) : Prop := ∃ i, i < n ∧ s.key i = k
theorem mkMany_off {s : Stp} {m : MS Int Int} (ho : Once m.es) {k : Int} : ∀ n, ¬ KeyIn s n k → look (mkMany h s m n).es k = look m.es k
  | 0, _ => rfl
  | n + 1, hk => by
    rw [mkMany_succ]
    have h1 := (mkMany_ok (h := h) (s := s) ho n).1
    rw [set_look (MS.set_is h _ h1 _ _) h1, if_neg (fun e => hk ⟨n, Nat.lt_succ_self n, e.symm⟩)]
    exact mkMany_off ho n fun ⟨i, h2, h3⟩ => hk ⟨i, Nat.lt_succ_of_lt h2, h3⟩
theorem mkLess_off {s : Stp} {m : MS Int Int} (ho : Once m.es) {k : Int} : ∀ n, ¬ KeyIn s n k → look (mkLess s m n).es k = look m.es k
  | 0, _ => rfl
  | n + 1, hk => by
    rw [mkLess_succ]
    have h1 := (mkLess_ok (s := s) ho n).1
    rw [show look ((mkLess s m n).del (s.key n)).es k = _ from del_look h1 _ _, if_neg (fun e => hk ⟨n, Nat.lt_succ_self n, e.symm⟩)]
    exact mkLess_off ho n fun ⟨i, h2, h3⟩ => hk ⟨i, Nat.lt_succ_of_lt h2, h3⟩
theorem mkLess_on {s : Stp} {m : MS Int Int} (ho : Once m.es) {k : Int} : ∀ n, KeyIn s n k → look (mkLess s m n).es k = none
  | 0, ⟨i, h1, _⟩ => by omega
  | n + 1, ⟨i, h2, h3⟩ => by
    rw [mkLess_succ]
    have h1 := (mkLess_ok (s := s) ho n).1
    rw [show look ((mkLess s m n).del (s.key n)).es k = _ from del_look h1 _ _]
    by_cases e : k = s.key n
    · rw [if_pos e]
    · rw [if_neg e]
      exact mkLess_on ho n ⟨i, by rcases Nat.lt_or_ge i n with h4 | h4; exact h4; exfalso; apply e; rw [← h3, show i = n by omega], h3⟩
theorem look_len {es es' : List (Int × Int)} (ho : Once es) (ho' : Once es') (hl : ∀ k, look es k = look es' k) : es.length = es'.length := by
  have h1 : es.Perm es' := by
    have nd : ∀ l : List (Int × Int), Once l → l.Nodup := fun l hl => by
      exact (List.pairwise_map.1 hl).imp fun h e => h (by rw [e])
    refine (List.perm_ext_iff_of_nodup (nd _ ho) (nd _ ho')).2 fun e => ?_
    obtain ⟨k, v⟩ := e
    rw [← look_iff ho, ← look_iff ho', hl]
  exact h1.length_eq
/-- what is put and taken away again -/
theorem undo_look {s t : Stp} {m : MS Int Int} (ho : Once m.es) {n : Nat} (hst : ∀ i, s.key i = t.key i) (hno : ∀ k, KeyIn s n k → look m.es k = none) (k : Int) : look (mkLess t (mkMany h s m n) n).es k = look m.es k := by
  have h1 := (mkMany_ok (h := h) (s := s) ho n).1
  by_cases hk : KeyIn t n k
  · rw [mkLess_on h1 n hk, hno k]
    obtain ⟨i, h2, h3⟩ := hk
    exact ⟨i, h2, by rw [hst, h3]⟩
  · rw [mkLess_off h1 n hk, mkMany_off ho n]
    rintro ⟨i, h2, h3⟩
    exact hk ⟨i, h2, by rw [← hst, h3]⟩
theorem again_look {t : Stp} {m a : MS Int Int} (ho : Once a.es) {n : Nat} (ha : ∀ k, look a.es k = look m.es k) (hno : ∀ k, KeyIn t n k → look m.es k = none) (k : Int) : look (mkLess t a n).es k = look m.es k := by
  by_cases hk : KeyIn t n k
  · rw [mkLess_on ho n hk, hno k hk]
  · rw [mkLess_off ho n hk, ha]
end

theorem wrap64_is (n : Int) (h : -9223372036854775808 ≤ n ∧ n ≤ 9223372036854775807) : wrap64 n = n := by unfold wrap64; omega
/-- the six steps -/
def undS (a b : Nat) (st : Int) : List Stp := [⟨2, 0, 0, st, a⟩, ⟨2, 1, -1, -st, b⟩, ⟨3, 2, -1, -st, b⟩, ⟨3, 3, -1, -st, b⟩, ⟨3, 2, 0, st, a⟩, ⟨3, 1, 0, st, a⟩]
theorem undS_vs (h : Int → Nat) (a b : Nat) (st : Int) (ha : a ≤ 300) (hb : b ≤ 300) (h0 : 1 ≤ st) (h1 : st ≤ 256) :
    ∃ v1 v2 v3 v4 v5 v6, versM h (undS a b st) [MS.empty] = [MS.empty, v1, v2, v3, v4, v5, v6] ∧ v6.es.length = 0 ∧ v3.es.length = v1.es.length ∧ v4.es.length = v1.es.length := by
  have hoe : Once (MS.empty : MS Int Int).es := by simp [MS.empty, Once]
  have hk0 : ∀ (C : Int) k F i, i ≤ 300 → (Stp.mk k F 0 st C).key i = (i : Int) * st := fun C k F i hi => by
    have h2 : 0 ≤ (i : Int) * st := Int.mul_nonneg (by omega) (by omega)
    have h3 : (i : Int) * st ≤ 300 * 256 := Int.mul_le_mul (by omega) h1 (by omega) (by omega)
    unfold Stp.key
    simp only
    rw [show wrap64 ((i : Int) * st) = (i : Int) * st from wrap64_is _ (by omega), Int.zero_add]
    exact wrap64_is _ (by omega)
  have hk1 : ∀ (C : Int) k F i, i ≤ 300 → (Stp.mk k F (-1) (-st) C).key i = -1 - (i : Int) * st := fun C k F i hi => by
    have h2 : 0 ≤ (i : Int) * st := Int.mul_nonneg (by omega) (by omega)
    have h3 : (i : Int) * st ≤ 300 * 256 := Int.mul_le_mul (by omega) h1 (by omega) (by omega)
    unfold Stp.key
    simp only
    rw [Int.mul_neg]
    rw [show wrap64 (-((i : Int) * st)) = -((i : Int) * st) from wrap64_is _ (by omega)]
    exact wrap64_is _ (by omega)
  have hpos : ∀ i : Nat, 0 ≤ (i : Int) * st := fun i => Int.mul_nonneg (by omega) (by omega)
  obtain ⟨s0, hs0⟩ : ∃ s : Stp, s = ⟨2, 0, 0, st, a⟩ := ⟨_, rfl⟩
  obtain ⟨s1, hs1⟩ : ∃ s : Stp, s = ⟨2, 1, -1, -st, b⟩ := ⟨_, rfl⟩
  obtain ⟨s2, hs2⟩ : ∃ s : Stp, s = ⟨3, 2, -1, -st, b⟩ := ⟨_, rfl⟩
  obtain ⟨s3, hs3⟩ : ∃ s : Stp, s = ⟨3, 3, -1, -st, b⟩ := ⟨_, rfl⟩
  obtain ⟨s4, hs4⟩ : ∃ s : Stp, s = ⟨3, 2, 0, st, a⟩ := ⟨_, rfl⟩
  obtain ⟨s5, hs5⟩ : ∃ s : Stp, s = ⟨3, 1, 0, st, a⟩ := ⟨_, rfl⟩
  have hok : ∀ (k : Nat) (F K V : Int) (C n : Nat), k ≤ 3 → 0 ≤ F → F < n → C ≤ 300 → (Stp.mk k F K V C).ok n = true := fun k F K V C n h1 h2 h3 h4 =>
    Asked.ok (most := 100000) ⟨h2, h3, h1, by show (0 : Int) ≤ C; omega, by show (C : Int) ≤ 100000; omega⟩ (by omega)
  have hv : versM h (undS a b st) [MS.empty] = [MS.empty, mkMany h s0 MS.empty a, mkMany h s1 (mkMany h s0 MS.empty a) b, mkLess s2 (mkMany h s1 (mkMany h s0 MS.empty a) b) b, mkLess s3 (mkLess s2 (mkMany h s1 (mkMany h s0 MS.empty a) b) b) b,
      mkLess s4 (mkMany h s1 (mkMany h s0 MS.empty a) b) a, mkLess s5 (mkMany h s0 MS.empty a) a] := by
    unfold undS
    rw [← hs0, ← hs1, ← hs2, ← hs3, ← hs4, ← hs5]
    rw [versM_cons, make_of (m := MS.empty) (by rw [hs0]; exact hok _ _ _ _ _ _ (by decide) (by decide) (by simp) ha) (by rw [hs0]; rfl), show s0.act h MS.empty = mkMany h s0 MS.empty a by subst hs0; rfl]
    rw [versM_cons, make_of (m := mkMany h s0 MS.empty a) (by rw [hs1]; exact hok _ _ _ _ _ _ (by decide) (by decide) (by simp) hb) (by rw [hs1]; rfl), show s1.act h (mkMany h s0 MS.empty a) = mkMany h s1 (mkMany h s0 MS.empty a) b by subst hs1; rfl]
    rw [versM_cons, make_of (m := mkMany h s1 (mkMany h s0 MS.empty a) b) (by rw [hs2]; exact hok _ _ _ _ _ _ (by decide) (by decide) (by simp) hb) (by rw [hs2]; rfl), show s2.act h (mkMany h s1 (mkMany h s0 MS.empty a) b) = mkLess s2 (mkMany h s1 (mkMany h s0 MS.empty a) b) b by subst hs2; rfl]
    rw [versM_cons, make_of (m := mkLess s2 (mkMany h s1 (mkMany h s0 MS.empty a) b) b) (by rw [hs3]; exact hok _ _ _ _ _ _ (by decide) (by decide) (by simp) hb) (by rw [hs3]; rfl), show s3.act h (mkLess s2 (mkMany h s1 (mkMany h s0 MS.empty a) b) b) = mkLess s3 (mkLess s2 (mkMany h s1 (mkMany h s0 MS.empty a) b) b) b by subst hs3; rfl]
    rw [versM_cons, make_of (m := mkMany h s1 (mkMany h s0 MS.empty a) b) (by rw [hs4]; exact hok _ _ _ _ _ _ (by decide) (by decide) (by simp) ha) (by rw [hs4]; rfl), show s4.act h (mkMany h s1 (mkMany h s0 MS.empty a) b) = mkLess s4 (mkMany h s1 (mkMany h s0 MS.empty a) b) a by subst hs4; rfl]
    rw [versM_cons, make_of (m := mkMany h s0 MS.empty a) (by rw [hs5]; exact hok _ _ _ _ _ _ (by decide) (by decide) (by simp) ha) (by rw [hs5]; rfl), show s5.act h (mkMany h s0 MS.empty a) = mkLess s5 (mkMany h s0 MS.empty a) a by subst hs5; rfl]
    rfl
  have o1 := (mkMany_ok (h := h) (s := s0) hoe a).1
  have o2 := (mkMany_ok (h := h) (s := s1) o1 b).1
  have o3 := (mkLess_ok (s := s2) o2 b).1
  have o4 := (mkLess_ok (s := s3) o3 b).1
  have o6 := (mkLess_ok (s := s5) o1 a).1
  have le : ∀ k, look (MS.empty : MS Int Int).es k = none := fun k => rfl
  have hno1 : ∀ k, KeyIn s1 b k → look (mkMany h s0 MS.empty a).es k = none := fun k ⟨j, hj, hjk⟩ => by
    rw [mkMany_off hoe a, le]
    rintro ⟨i, hi, hik⟩
    rw [hs0, hk0 _ _ _ _ (by omega)] at hik
    rw [hs1, hk1 _ _ _ _ (by omega)] at hjk
    have := hpos i
    have := hpos j
    omega
  have k12 : ∀ i, s1.key i = s2.key i := fun i => by rw [hs1, hs2]; rfl
  have k13 : ∀ i, s1.key i = s3.key i := fun i => by rw [hs1, hs3]; rfl
  have k05 : ∀ i, s0.key i = s5.key i := fun i => by rw [hs0, hs5]; rfl
  have l3 := undo_look (h := h) (s := s1) (t := s2) o1 (n := b) k12 hno1
  have l4 := again_look (t := s3) (m := mkMany h s0 MS.empty a) o3 (n := b) l3 (fun k ⟨i, h2, h3⟩ => hno1 k ⟨i, h2, by rw [k13, h3]⟩)
  have l6 := undo_look (h := h) (s := s0) (t := s5) hoe (n := a) k05 (fun k _ => le k)
  exact ⟨_, _, _, _, _, _, hv, look_len o6 hoe l6, look_len o3 o1 l3, look_len o4 o1 l4⟩
end Go.Proofs.Ytpkndcmgialgcaa
