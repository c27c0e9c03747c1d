/- A slice of whole numbers copied; turned round in place. -/
import Derived.Test.YtefigjdebakccaaFil
namespace Go.Proofs.Ytefigjdebakccaa
open Go.RowKit

/-- v is a slice that reads these whole numbers; nil, if it lies nowhere -/
def RdN (w : World) (v : Value) (xs : List Int) : Prop :=
  ∃ (a : Option Addr) (cap : Nat), v = .slice a xs.length cap ∧ (a = none → cap = 0) ∧ ∀ (i : Nat) (x : Int), xs[i]? = some x → ∃ g o, a = some ⟨g, o, none⟩ ∧ w.cell? ⟨g, o + i, none⟩ = some (.int .i64 x)
theorem RdN.rdi {w : World} {v : Value} {xs : List Int} (h : RdN w v xs) : RdI w v xs := by
  obtain ⟨a, c, h1, -, h3⟩ := h
  exact ⟨a, c, h1, h3⟩
theorem RdN.below {w w' : World} {v : Value} {xs : List Int} (h : RdN w v xs) (b : Below w.heap.size w w') : RdN w' v xs := by
  obtain ⟨a, cap, h1, h0, h2⟩ := h
  refine ⟨a, cap, h1, h0, fun i e he => ?_⟩
  obtain ⟨g, o, h3, h4⟩ := h2 i e he
  exact ⟨g, o, h3, bcell b h4⟩
theorem IV.rdn {w : World} {v : Value} {xs : List Int} (h : IV w v xs) : RdN w v xs := by
  rcases h with ⟨rfl, rfl⟩ | ⟨g, c, cur, rfl, h2, h3⟩
  · exact ⟨none, 0, rfl, fun _ => rfl, fun i x hx => by simp at hx⟩
  · exact ⟨_, c, rfl, nofun, fun i x hx => ⟨g, 0, rfl, by rw [Nat.zero_add]; exact cell_at h2 (h3 i x hx)⟩⟩
theorem eq_nil22_t (w : World) : Sem.run Try.prog (binOp BinOp.eql 22 (Value.slice none 0 0) (Value.slice none 0 0)) w = .ok (.bool true) w := by kernel_rfl
theorem eq_nil22_f (ad : Addr) (n c : Nat) (w : World) : Sem.run Try.prog (binOp BinOp.eql 22 (Value.slice (some ad) n c) (Value.slice none 0 0)) w = .ok (.bool false) w := by kernel_rfl
theorem ints_one (xs : List Int) : ∀ u ∈ xs.map (Value.int .i64), u.oneCell' = true := fun u hu => by
  obtain ⟨x, -, rfl⟩ := List.mem_map.1 hu
  rfl
theorem clone_news {w : World} {ad : Addr} {xs : List Int} {cap : Nat} (h : RdN w (.slice (some ad) xs.length cap) xs) (o : Obj) : ∀ j u, (xs.map (Value.int .i64))[j]? = some u → (w.alloc o).cell? (ad.add j) = some u := fun j u hu => by
  obtain ⟨a, c, h1, -, h3⟩ := h
  rw [List.getElem?_map] at hu
  cases hx : xs[j]? with
  | none => rw [hx] at hu; cases hu
  | some x =>
    rw [hx] at hu
    simp only [Option.map_some, Option.some.injEq] at hu
    subst hu
    obtain ⟨g, q, h4, h5⟩ := h3 j x hx
    simp only [Value.slice.injEq] at h1
    have : some ad = some ⟨g, q, none⟩ := h1.1.trans h4
    obtain rfl := Option.some.inj this
    rw [Addr.add_lit]
    exact bcell ((Below.refl _ _).alloc (Nat.le_refl _) _) h5

set_option maxRecDepth 100000 in
set_option maxHeartbeats 800000 in
theorem cloneI_w (u : Value) (xs : List Int) (w : World) (hu : RdN w u xs) (hl : xs.length ≤ 2147483647) :
    Calls Try.prog 19 #[u] w fun e w' => ∃ v, e = .returned v ∧ w'.ownsRow w.heap.size 3 1 v xs.length (xs.map (Value.int .i64)) ∧ Below w.heap.size w w' := by
  obtain ⟨i3, hi, hz0, hz1, hz2⟩ := info_parts info3
  have HI := Lib.hid (And.intro hi (And.intro hz0 (And.intro hz1 hz2)))
  clear hi hz0 hz1 hz2
  have HU := Lib.hid hu
  have HL := Lib.hid hl
  obtain ⟨a, cap, rfl, hnil, hc⟩ := hu
  cases a with
  | none =>
    have hx0 : xs = [] := by
      cases xs with
      | nil => rfl
      | cons x r => obtain ⟨g, o, h, _⟩ := hc 0 _ rfl; cases h
    subst hx0
    have hc0 := hnil rfl
    subst hc0
    clear hc hnil hl HL HU HI
    have hq := eq_nil22_t
    go_enter Try.func19, Try.ntmps19
    go_wp2_with fail
    go_ret
    exact ⟨_, rfl, World.ownsRow_nil _ _ _ _, Below.refl _ _⟩
  | some ad =>
    have HO : Hid ((w.alloc (.cells #[] 3)).ownsRow w.heap.size 3 1 (.slice (some ⟨w.heap.size, 0, none⟩) 0 0) 0 []) := World.ownsRow_made (base := w.heap.size) (e := 3) (size := 1) w #[] 0 (Nat.le_refl _) (by decide) rfl
    clear hc hnil hl
    have hq := eq_nil22_f
    go_enter Try.func19, Try.ntmps19
    go_wp2_with (at_builtin; refine wpList_append_own _ rfl (.tmp 5) (.tmp 6) 22 rfl w.heap.size 3 i3 (.int .i64 0) 1 8 Try.underlying22 HI.out.1 HI.out.2.1 HI.out.2.2.1 HI.out.2.2.2 rfl (by decide) _ _ _ rfl HO.out ad xs.length cap (xs.map (Value.int .i64)) rfl (by simp) (clone_news HU.out _) (ints_one xs) (by have := HL.out; unfold maxLen; omega) (by have := HL.out; omega) (by simp) ?_)
    intro v1 w1 hown1 hgrow1 hnil1
    have HB : Hid (Below w.heap.size w w1) := Below.grown ((Below.refl _ w).alloc (Nat.le_refl _) (.cells #[] 3)) hgrow1 (by simp) fun k hk => by simp only [Value.ownBlock, Option.some.injEq] at hk; omega
    have HO1 := Lib.hid hown1
    clear hown1 hgrow1 hnil1
    go_wp2_with fail
    go_ret
    exact ⟨_, rfl, HO1.out, HB.out⟩

/-- the numbers whose first and last i are turned round -/
def half (xs : List Int) (i : Nat) : List Int := xs.reverse.take i ++ (xs.drop i).take (xs.length - 2 * i) ++ xs.reverse.drop (xs.length - i)
theorem half_at {xs : List Int} {i k : Nat} (hi : 2 * i ≤ xs.length) (hk : k < xs.length) : (half xs i)[k]? = if i ≤ k ∧ k < xs.length - i then xs[k]? else xs[xs.length - 1 - k]? := by
  unfold half
  have l1 : (xs.reverse.take i).length = i := by rw [List.length_take, List.length_reverse]; omega
  have l2 : ((xs.drop i).take (xs.length - 2 * i)).length = xs.length - 2 * i := by rw [List.length_take, List.length_drop]; omega
  by_cases h1 : k < i
  · rw [if_neg (by omega), List.append_assoc, List.getElem?_append_left (by rw [l1]; exact h1), List.getElem?_take, if_pos h1, List.getElem?_reverse (by omega)]
  · by_cases h2 : k < xs.length - i
    · rw [if_pos ⟨by omega, h2⟩, List.getElem?_append_left (by rw [List.length_append, l1, l2]; omega), List.getElem?_append_right (by rw [l1]; omega), l1, List.getElem?_take, if_pos (by omega), List.getElem?_drop, show i + (k - i) = k by omega]
    · rw [if_neg (by omega), List.getElem?_append_right (by rw [List.length_append, l1, l2]; omega), List.length_append, l1, l2, List.getElem?_drop, List.getElem?_reverse (by omega)]
      congr 1
      omega
theorem half_len {xs : List Int} {i : Nat} (hi : 2 * i ≤ xs.length) : (half xs i).length = xs.length := by
  unfold half
  rw [List.length_append, List.length_append, List.length_take, List.length_take, List.length_drop, List.length_drop, List.length_reverse]
  omega
theorem half_zero (xs : List Int) : half xs 0 = xs := by
  unfold half
  simp
theorem half_end {xs : List Int} {i : Nat} (hi : 2 * i ≤ xs.length) (h : xs.length ≤ 2 * i + 1) : half xs i = xs.reverse := by
  refine List.ext_getElem? fun k => ?_
  by_cases hk : k < xs.length
  · rw [half_at hi hk, List.getElem?_reverse hk]
    split
    · congr 1
      omega
    · rfl
  · rw [List.getElem?_eq_none (by rw [half_len hi]; omega), List.getElem?_eq_none (by rw [List.length_reverse]; omega)]
theorem half_step {xs : List Int} {i : Nat} (hi : 2 * i + 2 ≤ xs.length) {x y : Int} (hx : xs[i]? = some x) (hy : xs[xs.length - 1 - i]? = some y) : ((half xs i).set i y).set (xs.length - 1 - i) x = half xs (i + 1) := by
  refine List.ext_getElem? fun k => ?_
  by_cases hk : k < xs.length
  · rw [List.getElem?_set, List.getElem?_set, half_len (by omega), List.length_set, half_len (by omega), half_at (by omega) hk, half_at (by omega) hk]
    by_cases h1 : xs.length - 1 - i = k
    · rw [if_pos h1, if_pos (by omega), if_neg (by omega), ← hx]
      congr 1
      omega
    · rw [if_neg h1]
      by_cases h2 : i = k
      · rw [if_pos h2, if_pos (by omega), if_neg (by omega), ← hy]
        congr 1
        omega
      · rw [if_neg h2]
        by_cases h3 : i ≤ k ∧ k < xs.length - i
        · rw [if_pos h3, if_pos (by omega)]
        · rw [if_neg h3, if_neg (by omega)]
  · rw [List.getElem?_eq_none (by rw [List.length_set, List.length_set, half_len (by omega)]; omega), List.getElem?_eq_none (by rw [half_len (by omega)]; omega)]
theorem own_drew {w : World} {B s n : Nat} {e : TypeId} {v : Value} {cs : List Value} (h : w.ownsRow B e s v n cs) : w.drew.ownsRow B e s v n cs := h
theorem own_set {w : World} {B n g c i : Nat} {e : TypeId} {cs : List Value} {u : Value} (h : w.ownsRow B e 1 (.slice (some ⟨g, 0, none⟩) n c) n cs) (_hi : i < n) : (w.setCell ⟨g, i, none⟩ u).ownsRow B e 1 (.slice (some ⟨g, 0, none⟩) n c) n (cs.set i u) := by
  refine ⟨by rw [List.length_set]; exact h.1, ?_⟩
  rcases h.2 with ⟨h1, -⟩ | ⟨g', cap, cur, h1, h2, h3, h4, h5, h6, h7⟩
  · cases h1
  · simp only [Value.slice.injEq, Option.some.injEq, Addr.mk.injEq, true_and, and_true] at h1
    obtain ⟨rfl, rfl⟩ := h1
    refine .inr ⟨g, c, cur.setIfInBounds i u, rfl, h2, heap_setCell_same _ _ _ _ _ _ h3, h4, h5, by simpa using h6, ?_⟩
    rw [← h7, Array.toList_setIfInBounds, List.take_set]
theorem set_map_int {xs : List Int} {i : Nat} {x : Int} : (xs.map (Value.int .i64)).set i (.int .i64 x) = (xs.set i x).map (Value.int .i64) := by
  rw [List.map_set]

set_option maxRecDepth 100000 in
set_option maxHeartbeats 1600000 in
theorem reverse_w (B : Nat) (v : Value) (xs : List Int) (w : World) (ho : w.ownsRow B 3 1 v xs.length (xs.map (Value.int .i64))) (hl : xs.length ≤ 2147483647) :
    Calls Try.prog 34 #[v] w fun e w' => e = .returned (.tuple #[]) ∧ w'.ownsRow B 3 1 v xs.length (xs.reverse.map (Value.int .i64)) ∧ But (fun x => v.ownBlock = some x) w w' := by
  obtain ⟨n, hn⟩ : ∃ n, n = xs.length := ⟨_, rfl⟩
  rw [← hn] at ho hl ⊢
  have HN := Lib.hid hn
  have HO := Lib.hid ho
  obtain ⟨a, c, rfl⟩ := own_len ho
  clear ho hn
  obtain ⟨n1, hn1⟩ : ∃ n1 : Int, n1 = (n : Int) - 1 := ⟨_, rfl⟩
  have hw0 : IntKind.i64.wrap ((n : Int) - 1) = n1 := by rw [IntKind.wrap_i64]; omega
  have hw00 : (n : Int) - 1 = n1 := hn1.symm
  have HN1 := Lib.hid hn1
  clear hn1
  go_enter Try.func34, Try.ntmps34
  go_wp2_with fail
  go_loopg [2, 3] n (fun k v2 v3 wr => ∃ (i : Nat) (z : Int), i + k = n ∧ 2 * i ≤ n ∧ v2 = .int .i64 (i : Int) ∧ v3 = .int .i64 z ∧ z + (i : Int) + 1 = (n : Int) ∧ wr.ownsRow B 3 1 (.slice a n c) n ((half xs i).map (Value.int .i64)) ∧ But (fun x => (Value.slice a n c).ownBlock = some x) w wr)
  case atStart => exact ⟨0, n1, by omega, by omega, rfl, rfl, by have := HN1.out; omega, by rw [half_zero]; exact HO.out, But.refl _ _⟩
  case round =>
    obtain ⟨i, z, hik, hi2, rfl, rfl, hz, ho, hb⟩ := hrel
    have HZ := Lib.hid hz
    have HB := Lib.hid hb
    have HO2 := Lib.hid ho
    clear hz hb ho
    by_cases hlt : (i : Int) < z
    · obtain ⟨m, rfl⟩ : ∃ m : Nat, z = (m : Int) := ⟨z.toNat, by omega⟩
      have hz := HZ.out
      have hmn : m < n := by omega
      have him : i < m := by omega
      have h1 : decide ((i : Int) < (m : Int)) = true := by simp; omega
      have e1 : (0 : Int) ≤ (i : Int) := by omega
      have e2 : (i : Int) < (n : Int) := by omega
      have e3 : (0 : Int) ≤ (m : Int) := by omega
      have e4 : (m : Int) < (n : Int) := by omega
      have hw1 : IntKind.i64.wrap ((i : Int) + 1) = (i : Int) + 1 := by rw [IntKind.wrap_i64]; omega
      obtain ⟨z2, hz2⟩ : ∃ z2 : Int, z2 = (m : Int) - 1 := ⟨_, rfl⟩
      have hw2 : IntKind.i64.wrap ((m : Int) - 1) = z2 := by rw [IntKind.wrap_i64]; omega
      have hw3 : (m : Int) - 1 = z2 := hz2.symm
      have HZ2 := Lib.hid hz2
      obtain ⟨x, hx⟩ : ∃ x, xs[i]? = some x := ⟨_, List.getElem?_eq_getElem (by rw [← HN.out]; omega)⟩
      obtain ⟨y, hy⟩ : ∃ y, xs[xs.length - 1 - i]? = some y := ⟨_, List.getElem?_eq_getElem (by rw [← HN.out]; omega)⟩
      have hmi : xs.length - 1 - i = m := by rw [← HN.out]; omega
      obtain ⟨g, c', hs⟩ := own_shape HO2.out (by omega)
      simp only [Value.slice.injEq] at hs
      obtain ⟨rfl, -, rfl⟩ := hs
      have k1 : (half xs i)[i]? = some x := by rw [half_at (by rw [← HN.out]; exact hi2) (by rw [← HN.out]; omega), if_pos (by rw [← HN.out]; omega)]; exact hx
      have k2 : (half xs i)[m]? = some y := by rw [half_at (by rw [← HN.out]; exact hi2) (by rw [← HN.out]; omega), if_pos (by rw [← HN.out]; omega), ← hmi]; exact hy
      have q1 := own_cell HO2.out (i := i) (u := .int .i64 x) (by rw [List.getElem?_map, k1]; rfl)
      have q2 := own_cell HO2.out (i := m) (u := .int .i64 y) (by rw [List.getElem?_map, k2]; rfl)
      have f1 := own_free HO2.out (i := i) (by omega)
      have f2 := own_free HO2.out (i := m) hmn
      have HX := Lib.hid hx
      have HY := Lib.hid hy
      have HMI := Lib.hid hmi
      clear hx hy hmi k1 k2 hz hz2
      go_upto_region 3 with (fail)
      have HR0 : Hid (wr.drew.cell? ⟨g, i, none⟩ = some (Value.int IntKind.i64 x) ∧ wr.drew.cell? ⟨g, m, none⟩ = some (Value.int IntKind.i64 y)) := ⟨q1, q2⟩
      have HOS : Hid (((wr.drew.setCell ⟨g, i, none⟩ (.int .i64 y)).setCell ⟨g, m, none⟩ (.int .i64 x)).ownsRow B 3 1 (.slice (some ⟨g, 0, none⟩) n c) n ((((half xs i).set i y).set m x).map (Value.int .i64))) := by
        show World.ownsRow _ _ _ _ _ _ _
        rw [← set_map_int, ← set_map_int]
        exact own_set (own_set (own_drew HO2.out) (by omega)) hmn
      have HBS : Hid (But (fun x => (Value.slice (some ⟨g, 0, none⟩) n c).ownBlock = some x) w ((wr.drew.setCell ⟨g, i, none⟩ (.int .i64 y)).setCell ⟨g, m, none⟩ (.int .i64 x))) := ((HB.out.drew).setCell (p := ⟨g, i, none⟩) (.inl rfl) _).setCell (p := ⟨g, m, none⟩) (.inl rfl) _
      refine region_tree (fun _ => True) (.two [0, 1, 2, 3, 4, 5, 6, 8, 9, 10] 7 (.one [] 11 (.one [12] 13 (.one [14] 15 .stop))) 11 (.one [] 7 (.one [12] 13 (.one [14] 15 .stop)))) (by kernel_rfl) (by intro dst v c a w h; cases dst <;> exact h) (by kernel_rfl) trivial ?_
      refine t_two ?_
      simp only [opsOf, List.getElem?_toArray, List.getElem?_cons_succ, List.getElem?_cons_zero]
      repeat (refine r_read ?_ (by kernel_rfl) ?_ (fun K hK => ?_); rotate_left 1; (intro W hR; clear hR; go_simp; try with_reducible rfl); go_simp; refine hK _ ?_; clear hK K)
      refine t_nil2 ?_ ?_
      · refine r_op rfl (fun K hK => ?_)
        go_simp
        refine hK _ _ trivial ?_
        clear hK K
        refine t_one0 ?_
        refine r_op rfl (fun K hK => ?_)
        go_simp
        refine hK _ _ trivial ?_
        clear hK K
        refine t_one ?_
        simp only [opsOf, List.getElem?_toArray, List.getElem?_cons_succ, List.getElem?_cons_zero]
        repeat (refine r_read ?_ (by kernel_rfl) ?_ (fun K hK => ?_); rotate_left 1; (intro W hR; clear hR; go_simp; try with_reducible rfl); go_simp; refine hK _ ?_; clear hK K)
        refine t_nil1 ?_
        refine r_op rfl (fun K hK => ?_)
        go_simp
        refine hK _ _ trivial ?_
        clear hK K
        refine t_one ?_
        simp only [opsOf, List.getElem?_toArray, List.getElem?_cons_succ, List.getElem?_cons_zero]
        repeat (refine r_read ?_ (by kernel_rfl) ?_ (fun K hK => ?_); rotate_left 1; (intro W hR; clear hR; go_simp; try with_reducible rfl); go_simp; refine hK _ ?_; clear hK K)
        refine t_nil1 ?_
        refine r_op rfl (fun K hK => ?_)
        go_simp
        refine hK _ _ trivial ?_
        clear hK K
        refine t_end ?_
        go_wp2_with fail
        go_roundg (gk - 1)
        case measure => omega
        case rel =>
          refine ⟨i + 1, z2, by omega, by have := HZ.out; omega, rfl, rfl, by have := HZ2.out; have := HZ.out; omega, ?_, ?_⟩
          · rw [← half_step (by have := HZ.out; rw [← HN.out]; omega) HX.out HY.out, HMI.out]
            exact HOS.out
          · exact HBS.out
      · refine r_op rfl (fun K hK => ?_)
        go_simp
        refine hK _ _ trivial ?_
        clear hK K
        refine t_one0 ?_
        refine r_op rfl (fun K hK => ?_)
        go_simp
        refine hK _ _ trivial ?_
        clear hK K
        refine t_one ?_
        simp only [opsOf, List.getElem?_toArray, List.getElem?_cons_succ, List.getElem?_cons_zero]
        repeat (refine r_read ?_ (by kernel_rfl) ?_ (fun K hK => ?_); rotate_left 1; (intro W hR; clear hR; go_simp; try with_reducible rfl); go_simp; refine hK _ ?_; clear hK K)
        refine t_nil1 ?_
        refine r_op rfl (fun K hK => ?_)
        go_simp
        refine hK _ _ trivial ?_
        clear hK K
        refine t_one ?_
        simp only [opsOf, List.getElem?_toArray, List.getElem?_cons_succ, List.getElem?_cons_zero]
        repeat (refine r_read ?_ (by kernel_rfl) ?_ (fun K hK => ?_); rotate_left 1; (intro W hR; clear hR; go_simp; try with_reducible rfl); go_simp; refine hK _ ?_; clear hK K)
        refine t_nil1 ?_
        refine r_op rfl (fun K hK => ?_)
        go_simp
        refine hK _ _ trivial ?_
        clear hK K
        refine t_end ?_
        go_wp2_with fail
        go_roundg (gk - 1)
        case measure => omega
        case rel =>
          refine ⟨i + 1, z2, by omega, by have := HZ.out; omega, rfl, rfl, by have := HZ2.out; have := HZ.out; omega, ?_, ?_⟩
          · rw [← half_step (by have := HZ.out; rw [← HN.out]; omega) HX.out HY.out, HMI.out]
            exact HOS.out
          · exact HBS.out
    · have h1 : decide ((i : Int) < z) = false := by simp; omega
      have hr : half xs i = xs.reverse := half_end (by rw [← HN.out]; exact hi2) (by have := HZ.out; rw [← HN.out]; omega)
      have HRR := Lib.hid hr
      clear hr
      go_wp2_with fail
      refine bodyPost_end (results_none rfl _ _ _) rfl ?_
      refine ⟨rfl, ?_, HB.out⟩
      have h := HO2.out
      rw [HRR.out] at h
      first | exact h | (rw [List.map_reverse] at h; exact h)
end Go.Proofs.Ytefigjdebakccaa
