/- Append and Prepend of a list, in words of lists; the plain arithmetic of a slice's contraction. -/
import Derived.Test.YtnahipfdnadccaaListF
namespace Go.Proofs.Ytnahipfdnadccaa
open Go.RowKit

theorem dep_append_room {n d o s : Nat} (h : Dep n d o s) (hlt : s + o < 32 ^ d) (_hn : n < 33554431) : Dep (n + 1) d o (s + 1) := by
  obtain ⟨h1, h2, h3, h4⟩ := h
  have e : (32 : Nat) ^ (d + 1) = 32 ^ d * 32 := Nat.pow_succ _ _
  exact ⟨by omega, by omega, h3, fun h6 => by have := h4 h6; omega⟩

theorem dep_append_grow {n d o s : Nat} (h : Dep n d o s) (hle : 32 ^ d ≤ s + o) (hn : n < 33554431) : Dep (n + 1) (d + 1) o (s + 1) := by
  obtain ⟨h1, h2, h3, h4⟩ := h
  have e : (32 : Nat) ^ (d + 1 + 1) = 32 ^ (d + 1) * 32 := Nat.pow_succ _ _
  have hp := pos32 (d + 1)
  refine ⟨by omega, by omega, ?_, fun h6 => ?_⟩
  · by_cases hd : d = 7
    · subst hd
      have := h4 (by omega)
      have e7 : (32 : Nat) ^ 7 = 34359738368 := by decide
      omega
    · omega
  · by_cases hd : d = 5
    · subst hd
      have e5 : (32 : Nat) ^ 5 = 33554432 := by decide
      have e6 : (32 : Nat) ^ (5 + 1) = 1073741824 := by decide
      omega
    · have := h4 (by omega)
      omega

theorem dep_prepend_room {n d o s : Nat} (h : Dep n d o s) (ho : 0 < o) : Dep (n + 1) d (o - 1) (s + 1) := by
  obtain ⟨h1, h2, h3, h4⟩ := h
  exact ⟨by omega, by omega, h3, fun h6 => by have := h4 h6; omega⟩

theorem dep_prepend_grow {n d s : Nat} (h : Dep n d 0 s) (hn : n < 33554431) : d ≤ 5 ∧ Dep (n + 1) (d + 1) (31 * 32 ^ (d + 1) - 1) (s + 1) := by
  obtain ⟨h1, h2, h3, h4⟩ := h
  have e : (32 : Nat) ^ (d + 1 + 1) = 32 ^ (d + 1) * 32 := Nat.pow_succ _ _
  have hp := pos32 (d + 1)
  have hd : d ≤ 5 := by
    rcases Nat.lt_or_ge 5 d with h | h
    · have := (h4 (by omega)).1; omega
    · exact h
  refine ⟨hd, by omega, by omega, by omega, fun h6 => ?_⟩
  obtain rfl : d = 5 := by omega
  have e6 : (32 : Nat) ^ (5 + 1) = 1073741824 := by decide
  omega

theorem win_append {o : Nat} {xs : List Int} {x : Int} : win o (xs ++ [x]) = upd (win o xs) (o + xs.length) x := by
  funext j
  show (if o ≤ j then (xs ++ [x])[j - o]? else none) = if j = o + xs.length then some x else if o ≤ j then xs[j - o]? else none
  by_cases h : o ≤ j
  · rw [if_pos h, List.getElem?_append]
    by_cases h1 : j - o < xs.length
    · rw [if_pos h1, if_neg (by omega), if_pos h]
    · rw [if_neg h1]
      by_cases h2 : j = o + xs.length
      · rw [if_pos h2, show j - o - xs.length = 0 by omega]; rfl
      · rw [if_neg h2, if_pos h, List.getElem?_eq_none (by simp; omega), List.getElem?_eq_none (by omega)]
  · rw [if_neg h, if_neg (by omega), if_neg h]

theorem win_prepend {o : Nat} {xs : List Int} {x : Int} (ho : 0 < o) : win (o - 1) (x :: xs) = upd (win o xs) (o - 1) x := by
  funext j
  show (if o - 1 ≤ j then (x :: xs)[j - (o - 1)]? else none) = if j = o - 1 then some x else if o ≤ j then xs[j - o]? else none
  by_cases h : j = o - 1
  · subst h; rw [if_pos (Nat.le_refl _), if_pos rfl, Nat.sub_self]; rfl
  · rw [if_neg h]
    by_cases h1 : o ≤ j
    · rw [if_pos (by omega), if_pos h1, show j - (o - 1) = (j - o) + 1 by omega, List.getElem?_cons_succ]
    · rw [if_neg (by omega), if_neg h1]

theorem win_none {o j : Nat} {xs : List Int} (h : o + xs.length ≤ j) : win o xs j = none := by
  unfold win
  split
  · exact List.getElem?_eq_none (by omega)
  · rfl

theorem win_shift {o m : Nat} {xs : List Int} (j : Nat) : win (m + o) xs (m + j) = win o xs j := by
  unfold win
  by_cases h : o ≤ j
  · rw [if_pos (by omega), if_pos h, show m + j - (m + o) = j - o by omega]
  · rw [if_neg (by omega), if_neg h]

theorem append_list {w : World} {v : Value} {n : Nat} {xs : List Int} (x : Int) (h : IsList w v n xs) (hn : n < 33554431) :
    Calls Try.prog 57 #[v, .int .i64 x] w (ListPost w (n + 1) (xs ++ [x])) := by
  obtain ⟨b, d, o, rfl, hat⟩ := h
  have hcap := fun (w' : World) (hb : Below w.heap.size w w') => cap_any (hat.stay (Stay.of_below hb))
  obtain ⟨p, h1, h2, h3⟩ := hat
  have hp := pow_le8 h3.2.2.1
  have hle := h3.2.1
  have hd7 := h3.2.2.1
  have hlocal : ∀ D, d ≤ D → loc ((o : Int) + xs.length) D = o + xs.length ∨ o + xs.length = 32 ^ (d + 1) := fun D hD => by
    rcases Nat.lt_or_ge (o + xs.length) (32 ^ (d + 1)) with h | h
    · left
      have e : ((o : Int) + xs.length) = ((o + xs.length : Nat) : Int) := by omega
      rw [e]
      exact loc_nat _ _ (Nat.lt_of_lt_of_le h (Nat.pow_le_pow_right (by decide) (by omega)))
    · right; omega
  have hpost : ∀ e w', (∃ D g, HeadPost w D o ((xs.length : Int) + 1) g e w' ∧ (∀ j y, win o (xs ++ [x]) j = some y → g j = some y) ∧ Dep (n + 1) D o (xs.length + 1)) → ListPost w (n + 1) (xs ++ [x]) e w' := fun e w' ⟨D, g, h, hg, hD⟩ =>
    h.list (xs := xs ++ [x]) hg (by simp) (by simpa using hD)
  have hret : ∀ (D : Nat) (g : Nat → Option Int) e w', HeadPost w D o ((xs.length : Int) + 1) g e w' → (∃ u, e = .returned u) ∨ ∃ c, e = .panicked c := fun D g e w' ⟨L, q, h, _⟩ => .inl ⟨_, h⟩
  rcases Nat.lt_or_ge (xs.length + o) (32 ^ d) with hlt | hge
  · have hloc : loc ((o : Int) + xs.length) d = o + xs.length := by
      rcases hlocal d (Nat.le_refl _) with h | h
      · exact h
      · have e : (32 : Nat) ^ (d + 1) = 32 ^ d * 32 := Nat.pow_succ _ _
        have := pos32 d
        omega
    refine (Append_w _ _ _ _ (append_room_w b d p (fn 93 103 d) (ty d) (o + xs.length) o xs.length (32 ^ d) (win o xs) x w (by omega) hlt rfl h1 hcap (disp_ty disp_set0 disp_set1 d) fun w' hb => ?_) (hret _ _)).mono fun e w' h => hpost e w' ⟨d, _, h, fun j y hy => ?_, dep_append_room h3 hlt hn⟩
    · have := set_any ((o : Int) + xs.length) x d Any w' p _ (by omega) (Node.stay (Stay.of_below hb) _ _ _ h2)
      rw [hloc] at this
      exact this
    · rw [win_append] at hy; exact hy
  · have hD := dep_append_grow h3 hge hn
    have hd6 : d ≤ 6 := by have := hD.2.2.1; omega
    have hloc : loc ((o : Int) + xs.length) (d + 1) = o + xs.length := by
      have e : ((o : Int) + xs.length) = ((o + xs.length : Nat) : Int) := by omega
      rw [e]
      have e2 : (32 : Nat) ^ (d + 1 + 1) = 32 ^ (d + 1) * 32 := Nat.pow_succ _ _
      have := pos32 (d + 1)
      exact loc_nat _ _ (by omega)
    refine (Append_w _ _ _ _ (append_grow_w b d p 103 (fn 91 101 d) (ty d) (o + xs.length) o xs.length (32 ^ d) (win o xs) (win o xs) x w (by omega) (by omega) hge rfl h1 h2 (fun V N hN hnode => ?_) hcap (disp_ty disp_depth0 disp_depth1 d)
      (fun w' hb => depth_any (Node.stay (Stay.of_below hb) _ _ _ h2)) disp_set1 fun w' q hq => ?_) (hret _ _)).mono fun e w' h => hpost e w' ⟨d + 1, _, h, fun j y hy => ?_, hD⟩
    · refine new_root (_W := V) hN (by omega) hnode (fun j y hj hy => by rw [Nat.zero_mul, Nat.zero_add] at hy; exact hy) fun k j hk hk0 hj => ?_
      apply win_none
      have : 1 * 32 ^ (d + 1) ≤ k * 32 ^ (d + 1) := Nat.mul_le_mul_right _ (by omega)
      omega
    · have := set_any ((o : Int) + xs.length) x (d + 1) Any w' q _ (by omega) hq
      rw [hloc] at this
      exact this
    · rw [win_append] at hy; exact hy

theorem prepend_list {w : World} {v : Value} {n : Nat} {xs : List Int} (x : Int) (h : IsList w v n xs) (hn : n < 33554431) :
    Calls Try.prog 58 #[v, .int .i64 x] w (ListPost w (n + 1) (x :: xs)) := by
  obtain ⟨b, d, o, rfl, p, h1, h2, h3⟩ := h
  have hp := pow_le8 h3.2.2.1
  have hle := h3.2.1
  have hd7 := h3.2.2.1
  have hpost : ∀ (o' : Nat) e w', (∃ D g, HeadPost w D (o' : Int) ((xs.length : Int) + 1) g e w' ∧ (∀ j y, win o' (x :: xs) j = some y → g j = some y) ∧ Dep (n + 1) D o' (xs.length + 1)) → ListPost w (n + 1) (x :: xs) e w' := fun o' e w' ⟨D, g, h, hg, hD⟩ =>
    h.list (xs := x :: xs) hg (by simp) (by simpa using hD)
  have hret : ∀ (o' : Int) (D : Nat) (g : Nat → Option Int) e w', HeadPost w D o' ((xs.length : Int) + 1) g e w' → (∃ u, e = .returned u) ∨ ∃ c, e = .panicked c := fun o' D g e w' ⟨L, q, h, _⟩ => .inl ⟨_, h⟩
  rcases Nat.eq_zero_or_pos o with h0 | h0
  · subst h0
    obtain ⟨hd5, hD⟩ := dep_prepend_grow h3 hn
    have hpos := pos32 (d + 1)
    have e2 : (32 : Nat) ^ (d + 1 + 1) = 32 ^ (d + 1) * 32 := Nat.pow_succ _ _
    have ec : ((31 * 32 ^ (d + 1) : Nat) : Int) - 1 = ((31 * 32 ^ (d + 1) - 1 : Nat) : Int) := by omega
    have hloc : loc (((31 * 32 ^ (d + 1) : Nat) : Int) - 1) (d + 1) = 31 * 32 ^ (d + 1) - 1 := by
      rw [ec]
      exact loc_nat _ _ (by omega)
    refine (Prepend_w _ _ _ _ (prepend_grow_w b d p 103 (fn 91 101 d) (ty d) (31 * 32 ^ (d + 1) - 1) xs.length (31 * 32 ^ (d + 1)) (win 0 xs) (win (31 * 32 ^ (d + 1)) xs) x w (by omega) rfl (by omega) rfl h1 h2 (fun V N hN hnode => ?_) (disp_ty disp_depth0 disp_depth1 d)
      (fun w' hb => depth_any (Node.stay (Stay.of_below hb) _ _ _ h2)) disp_set1 fun w' q hq => ?_) (hret _ _ _)).mono fun e w' h => hpost (31 * 32 ^ (d + 1) - 1) e w' ⟨d + 1, _, by rw [← ec]; exact h, fun j y hy => ?_, hD⟩
    · refine new_root (_W := V) hN (by omega) hnode (fun j y hj hy => ?_) fun k j hk hk0 hj => ?_
      · have := win_shift (o := 0) (m := 31 * 32 ^ (d + 1)) (xs := xs) j
        rw [Nat.add_zero] at this
        rw [← this]; exact hy
      · unfold win
        rw [if_neg]
        have := mul_mono_lt (M := 32 ^ (d + 1)) (r := 0) (show k < 31 by omega) hj
        omega
    · have := set_any (((31 * 32 ^ (d + 1) : Nat) : Int) - 1) x (d + 1) Any w' q _ (by omega) hq
      rw [hloc] at this
      exact this
    · rw [← win_prepend (by omega)]; exact hy
  · have ec : (o : Int) - 1 = ((o - 1 : Nat) : Int) := by omega
    have hloc : loc ((o : Int) - 1) d = o - 1 := by
      rw [ec]
      exact loc_nat _ _ (by omega)
    refine (Prepend_w _ _ _ _ (prepend_room_w b d p (fn 93 103 d) (ty d) (o - 1) o xs.length (win o xs) x w (by omega) h0 rfl h1 (disp_ty disp_set0 disp_set1 d) fun w' hb => ?_) (hret _ _ _)).mono fun e w' h => hpost (o - 1) e w' ⟨d, _, by rw [← ec]; exact h, fun j y hy => ?_, dep_prepend_room h3 h0⟩
    · have := set_any ((o : Int) - 1) x d Any w' p _ (by omega) (Node.stay (Stay.of_below hb) _ _ _ h2)
      rw [hloc] at this
      exact this
    · rw [← win_prepend h0]; exact hy

end Go.Proofs.Ytnahipfdnadccaa
