/- The walk over the law FnSortHalves. -/
import Derived.Test.YtefigjdebakccaaAsk
import Derived.Test.YtefigjdebakccaaCln
namespace Go.Proofs.Ytefigjdebakccaa
open Go.RowKit

def hask : List Stp := [⟨4, 0, 0, 0, []⟩]
def haskCells : Array Value := #[.int .u8 4, .int .i64 0, .int .i64 0, .int .i64 0, .slice none 0 0]
theorem hask_stps (w : World) : StpsV (w.alloc (.cells haskCells 27)) (.slice (some ⟨w.heap.size, 0, none⟩) 1 1) hask := by
  have h := heap_alloc_last w (.cells haskCells 27)
  refine ⟨_, 1, rfl, fun i s hs => ⟨w.heap.size, 0, .slice none 0 0, rfl, ?_⟩⟩
  have key : ∀ n : Nat, s.moves = [] → haskCells[n * 5]? = some (.int .u8 (s.op : Int)) → haskCells[n * 5 + 1]? = some (.int .i64 (s.on : Int)) → haskCells[n * 5 + 2]? = some (.int .i64 s.key) → haskCells[n * 5 + 3]? = some (.int .i64 s.val) → haskCells[n * 5 + 4]? = some (.slice none 0 0) →
      (w.alloc (.cells haskCells 27)).cell? ⟨w.heap.size, 0 + n * 5, none⟩ = some (.int .u8 (s.op : Int)) ∧ (w.alloc (.cells haskCells 27)).cell? ⟨w.heap.size, 0 + n * 5 + 1, none⟩ = some (.int .i64 (s.on : Int)) ∧ (w.alloc (.cells haskCells 27)).cell? ⟨w.heap.size, 0 + n * 5 + 2, none⟩ = some (.int .i64 s.key) ∧
      (w.alloc (.cells haskCells 27)).cell? ⟨w.heap.size, 0 + n * 5 + 3, none⟩ = some (.int .i64 s.val) ∧ (w.alloc (.cells haskCells 27)).cell? ⟨w.heap.size, 0 + n * 5 + 4, none⟩ = some (.slice none 0 0) ∧ MovesV (w.alloc (.cells haskCells 27)) (.slice none 0 0) s.moves := by
    intro n h0 h1 h2 h3 h4 h5
    rw [Nat.zero_add]
    exact ⟨cell_at h h1, cell_at h h2, cell_at h h3, cell_at h h4, cell_at h h5, by rw [h0]; exact movesV_nil _⟩
  match i, hs with
  | 0, hs => cases hs; exact key 0 rfl rfl rfl rfl rfl rfl
  | i + 1, hs => simp [hask] at hs
theorem hask_ok : ∀ s ∈ hask, 2 ≤ s.op ∧ s.op ≤ 6 ∧ (∀ m ∈ s.moves, m.1 ≤ 5) ∧ s.moves.length ≤ 100000 := by
  intro s hs
  simp only [hask, List.mem_cons, List.not_mem_nil, or_false] at hs
  rcases hs with rfl <;> simp
def haskAt (w : World) (g q : Nat) (es : Es) (k0 v0 : Value) : Prop := (w.cell? ⟨g, q + 2, none⟩ = some k0 ∧ w.cell? ⟨g, q + 3, none⟩ = some v0) ∧ IV w k0 (es.map (·.1)) ∧ IV w v0 (es.map (·.2))
theorem haskAt.below {w w' : World} {g q : Nat} {es : Es} {k0 v0 : Value} (h : haskAt w g q es k0 v0) (b : Below w.heap.size w w') : haskAt w' g q es k0 v0 :=
  ⟨⟨bcell b h.1.1, bcell b h.1.2⟩, h.2.1.kb (by decide) (KB.of_below 0 b), h.2.2.kb (by decide) (KB.of_below 0 b)⟩
theorem hask_told {w : World} {v : Value} {es : Es} {lt : Int → Int → Bool} (h : TldV w v (hask.map (tell lt es))) : ∃ g q c k0 v0, v = .slice (some ⟨g, q, none⟩) 1 c ∧ haskAt w g q es k0 v0 := by
  obtain ⟨a, c, h1, h2⟩ := h
  obtain ⟨g, q, k0, v0, s0, e0, a0, -, c0, d0, -, i0, j0, -⟩ := h2 0 _ rfl
  subst e0
  exact ⟨g, q, c, k0, v0, h1, ⟨c0, d0⟩, i0, j0⟩

theorem wpList_guarded {P : Program} {ops : Array Oper} {Q : Exit → Act → World → Prop} {a : Act} {w : World} {rest : List Oper} {o : Oper} (hw : Region.wanted o (yielded ops a.tmps) = true) (h : o.wp P a w (wpList P ops Q rest) Q) : wpList P ops Q (o :: rest) a w := by
  unfold wpList
  rw [if_pos hw]
  exact .inl h
/-- a number behind a row of one's own -/
theorem one_new3 (w : World) (x : Int) : ∀ j u, [Value.int .i64 x][j]? = some u → (w.alloc (.cells #[.int .i64 x] 3)).cell? ((⟨w.heap.size, 0, none⟩ : Addr).add j) = some u := new_cell w _ _

set_option maxRecDepth 100000 in
set_option maxHeartbeats 3200000 in
theorem lhalves_w (o : Nat) (u : Value) (xs : List Int) (key : Int) (w : World) (hu : RdN w u xs) : Calls Try.prog 4 #[.int .u8 (o : Int), u, .int .i64 key] w fun e w' => e = .returned (.bool true) ∧ Below w.heap.size w w' := by
  obtain ⟨i3, hi, hz0, hz1, hz2⟩ := info_parts info3
  have HI := Lib.hid (And.intro hi (And.intro hz0 (And.intro hz1 hz2)))
  clear hi hz0 hz1 hz2
  have HU := Lib.hid hu
  obtain ⟨ua, uc, rfl, -⟩ := hu
  obtain ⟨n, hn⟩ : ∃ n, n = xs.length := ⟨_, rfl⟩
  rw [← hn] at HU ⊢
  have HN := Lib.hid hn
  clear hn
  go_enter Try.func4, Try.ntmps4
  by_cases c1 : 2147483647 < n
  · have d1 : decide ((2147483647 : Int) < (n : Int)) = true := by simp; omega
    go_wp2_with fail
    go_ret
    exact ⟨rfl, Below.refl _ _⟩
  have d1 : decide ((2147483647 : Int) < (n : Int)) = false := by simp; omega
  by_cases c0 : 3 < o
  · have d0 : decide ((3 : Int) < (o : Int)) = true := by simp; omega
    go_wp2_with fail
    refine (awake_w w).mono ?_
    rintro e wa ⟨rfl, hba⟩
    have HBA := Lib.hid (hba)
    clear hba
    go_wp2_with fail
    refine bodyPost_ret (results_tmp rfl _ _ _) rfl ?_
    exact ⟨rfl, HBA.out⟩
  have d0 : decide ((3 : Int) < (o : Int)) = false := by simp; omega
  have hnl : n ≤ 2147483647 := by omega
  have HNL := Lib.hid hnl
  have HCL := Lib.hid (cloneI_w _ xs w HU.out (by rw [← HN.out]; omega))
  rw [← HN.out] at HCL
  clear c1 c0 hnl
  go_wp2_with fail
  refine HCL.out.mono ?_
  rintro e w1 ⟨v1, rfl, ho1, hb1⟩
  have HO1 := Lib.hid ho1
  have HB1 := Lib.hid hb1
  clear ho1 hb1 HCL
  go_wp2_with (at_builtin; refine wpList_guarded (by kernel_rfl) (wp_append_own _ (.tmp 24) (.tmp 26) 22 rfl w.heap.size 3 i3 (.int .i64 0) 1 8 Try.underlying22 HI.out.1 HI.out.2.1 HI.out.2.2.1 HI.out.2.2.2 rfl (by decide) _ _ _ rfl (HO1.out.alloc _) ⟨w1.heap.size, 0, none⟩ 1 1 [.int .i64 key] rfl rfl (one_new3 _ _) (one_oneCell rfl) (by have := HNL.out; unfold maxLen; omega) (by have := HNL.out; omega) (by have := HB1.out.size; rw [size_alloc]; omega) ?_))
  intro v2 w2 hown2 hgrow2 _
  have hsz : w.heap.size ≤ w1.heap.size := HB1.out.size
  have HB2 := Lib.hid (HB1.out.trans (below_grown ((Below.refl w.heap.size w1).alloc hsz (.cells #[.int .i64 key] 3)) HO1.out (Nat.le_refl _) hsz hgrow2))
  have HV2 : Hid (IV w2 v2 (xs ++ [key])) := IV.of_own (n := n + 1) (by rw [List.length_append, ← HN.out]; rfl) (by rw [List.map_append]; rfl) hown2
  have HKS := Lib.hid (sortKeys_w _ (xs ++ [key]) 61 w2 HV2.out.rdi (by rw [List.length_append, ← HN.out]; have := HNL.out; simp; omega))
  obtain ⟨v2a, v2c, rfl⟩ := own_len hown2
  clear hown2 hgrow2 hsz HO1
  by_cases c2 : KeysOk (xs ++ [key]) 61
  case neg =>
    have d2 : decide (KeysOk (xs ++ [key]) 61) = false := decide_eq_false c2
    rw [d2] at HKS
    clear c2 d2
    go_wp2_with fail
    refine HKS.out.mono ?_
    rintro e w1 ⟨rfl, rfl⟩
    go_wp2_with fail
    refine (awake_w w2).mono ?_
    rintro e wa ⟨rfl, hba⟩
    have HBA := Lib.hid (HB2.out.trans (hba.mono HB2.out.size))
    clear hba
    go_wp2_with fail
    refine bodyPost_ret (results_tmp rfl _ _ _) rfl ?_
    exact ⟨rfl, HBA.out⟩
  have d2 : decide (KeysOk (xs ++ [key]) 61) = true := decide_eq_true c2
  rw [d2] at HKS
  have hn3 : n ≤ 60 := by rw [HN.out]; have := c2.2; rw [List.length_append, List.length_singleton] at this; omega
  have HN3 := Lib.hid hn3
  clear c2 d2 hn3
  go_wp2_with fail
  refine HKS.out.mono ?_
  rintro e w3 ⟨rfl, rfl⟩
  clear HKS HV2
  go_wp2_with fail
  go_loopg [7, 8, 10, 34] n (fun k v7 v8 v10 v wr => ∃ j : Nat, j + k = n ∧ v = .int .i64 (j : Int) ∧ wr.ownsRow w2.heap.size 3 1 v7 (((xs.take j).filter fun x => ltO o x key).length) (((xs.take j).filter fun x => ltO o x key).map (Value.int .i64)) ∧
    wr.ownsRow w2.heap.size 3 1 v8 (((xs.take j).filter fun x => !ltO o x key).length) (((xs.take j).filter fun x => !ltO o x key).map (Value.int .i64)) ∧ (v7.ownBlock = none ∨ v7.ownBlock ≠ v8.ownBlock) ∧ Below w2.heap.size w2 wr)
  case atStart => exact ⟨0, by omega, rfl, World.ownsRow_nil _ _ _ _, World.ownsRow_nil _ _ _ _, .inl rfl, Below.refl _ _⟩
  case round =>
    obtain ⟨j, hjk, rfl, ho7, ho8, hne, hb⟩ := hrel
    obtain ⟨A, hA⟩ : ∃ A, A = (xs.take j).filter (fun x => ltO o x key) := ⟨_, rfl⟩
    obtain ⟨B, hBL⟩ : ∃ B, B = (xs.take j).filter (fun x => !ltO o x key) := ⟨_, rfl⟩
    obtain ⟨p, hp⟩ : ∃ p, p = A.length := ⟨_, rfl⟩
    obtain ⟨q, hq⟩ : ∃ q, q = B.length := ⟨_, rfl⟩
    have hpq : p ≤ n ∧ q ≤ n := by
      have h1 := List.length_filter_le (fun x => ltO o x key) (xs.take j)
      have h2 := List.length_filter_le (fun x => !ltO o x key) (xs.take j)
      rw [← hA, ← hp, List.length_take, ← HN.out] at h1
      rw [← hBL, ← hq, List.length_take, ← HN.out] at h2
      omega
    rw [← hA, ← hp] at ho7
    rw [← hBL, ← hq] at ho8
    have HA := Lib.hid hA
    have HBL := Lib.hid hBL
    have HPA := Lib.hid hp
    have HQB := Lib.hid hq
    have HPQ := Lib.hid hpq
    have HO7 := Lib.hid ho7
    have HO8 := Lib.hid ho8
    have HNE := Lib.hid hne
    have HB := Lib.hid hb
    clear hA hBL hp hq hpq ho7 ho8 hne hb
    by_cases hlt : j < n
    · have h1 : decide ((j : Int) < (n : Int)) = true := by simp; omega
      have hw1 : IntKind.i64.wrap ((j : Int) + 1) = (j : Int) + 1 := by have := HN3.out; rw [IntKind.wrap_i64]; omega
      have hj0 : (0 : Int) ≤ (j : Int) := by omega
      have hj1 : (j : Int) < (n : Int) := by omega
      obtain ⟨x, hx⟩ : ∃ x, xs[j]? = some x := ⟨_, List.getElem?_eq_getElem (by rw [← HN.out]; exact hlt)⟩
      obtain ⟨ua2, uc2, hv, hread⟩ := (HU.out.rdi.below HB2.out).below HB.out
      obtain ⟨g1, o1, hg1, hc1⟩ := hread j x hx
      simp only [Value.slice.injEq] at hv
      have hma : ua = some ⟨g1, o1, none⟩ := hv.1.trans hg1
      subst hma
      have HX := Lib.hid hx
      clear hx hv hg1 hread
      go_wp2_with fail
      refine (ahead_w o x key wr).mono ?_
      rintro e w' ⟨rfl, rfl⟩
      clear hc1
      cases hq : ltO o x key with
      | true =>
        have HLT := Lib.hid hq
        clear hq
        go_wp2_with (at_builtin; refine wpList_guarded (by kernel_rfl) (app_any (.tmp 42) (.tmp 44) rfl w2.heap.size p _ (A.map (Value.int .i64)) rfl (HO7.out.alloc _) (by have := HPQ.out; have := HN3.out; omega) [x] (by simp) (some ⟨wr.heap.size, 0, none⟩) 1 rfl nofun (fun i y hy => ⟨wr.heap.size, 0, rfl, by
          have hi : i = 0 := by
            have := (List.getElem?_eq_some_iff.1 hy).1
            simp at this
            exact this
          subst hi
          simp at hy
          subst hy
          exact cell_at (j := 0) (heap_alloc_last wr _) rfl⟩) (by have := HB.out.size; rw [size_alloc]; omega) ?_))
        intro v4 w4 ho4 hg4 hat4
        have hA2 : Below wr.heap.size wr (wr.alloc (.cells #[.int .i64 x] 3)) := (Below.refl _ _).alloc (Nat.le_refl _) _
        have hoth : w4.ownsRow w2.heap.size 3 1 u8 q (B.map (Value.int .i64)) := own_but (own_below HO8.out hA2) (but_grown hg4) fun k hk e => by
          rcases HNE.out with h | h
          · rw [h] at e; cases e
          · exact h (e.trans hk.symm)
        have hB4 : Below w2.heap.size w2 w4 := HB.out.trans (below_grown ((Below.refl w2.heap.size wr).alloc HB.out.size (.cells #[.int .i64 x] 3)) HO7.out (Nat.le_refl _) HB.out.size hg4)
        have hne4 : v4.ownBlock = none ∨ v4.ownBlock ≠ u8.ownBlock := by
          rcases hat4 with h | h
          · rw [h]; exact HNE.out
          · refine .inr fun e => ?_
            rw [h] at e
            have := (HO8.out.lt _ e.symm).2
            omega
        have HOT := Lib.hid hoth
        have HB4 := Lib.hid hB4
        have HNE4 := Lib.hid hne4
        have HO4 := Lib.hid ho4
        clear hA2 hoth hB4 hne4 ho4 hg4 hat4
        go_wp2_with fail
        go_roundg (gk - 1)
        case measure => omega
        case rel =>
          have e7 : (xs.take (j + 1)).filter (fun x => ltO o x key) = A ++ [x] := by
            rw [List.take_add_one, HX.out, Option.toList_some, List.filter_append, ← HA.out, List.filter_cons, if_pos HLT.out]
            rfl
          have e8 : (xs.take (j + 1)).filter (fun x => !ltO o x key) = B := by
            rw [List.take_add_one, HX.out, Option.toList_some, List.filter_append, ← HBL.out, List.filter_cons, if_neg (by rw [HLT.out]; simp)]
            simp
          refine ⟨j + 1, by omega, rfl, ?_, ?_, HNE4.out, HB4.out⟩
          · rw [e7]
            have h := HO4.out
            rw [List.length_append, List.map_append, ← HPA.out]; exact h
          · rw [e8]
            have h := HOT.out
            rw [← HQB.out]; exact h
      | false =>
        have HLT := Lib.hid hq
        clear hq
        go_wp2_with (at_builtin; refine wpList_guarded (by kernel_rfl) (app_any (.tmp 46) (.tmp 48) rfl w2.heap.size q _ (B.map (Value.int .i64)) rfl (HO8.out.alloc _) (by have := HPQ.out; have := HN3.out; omega) [x] (by simp) (some ⟨wr.heap.size, 0, none⟩) 1 rfl nofun (fun i y hy => ⟨wr.heap.size, 0, rfl, by
          have hi : i = 0 := by
            have := (List.getElem?_eq_some_iff.1 hy).1
            simp at this
            exact this
          subst hi
          simp at hy
          subst hy
          exact cell_at (j := 0) (heap_alloc_last wr _) rfl⟩) (by have := HB.out.size; rw [size_alloc]; omega) ?_))
        intro v4 w4 ho4 hg4 hat4
        have hA2 : Below wr.heap.size wr (wr.alloc (.cells #[.int .i64 x] 3)) := (Below.refl _ _).alloc (Nat.le_refl _) _
        have hoth : w4.ownsRow w2.heap.size 3 1 u7 p (A.map (Value.int .i64)) := own_but (own_below HO7.out hA2) (but_grown hg4) fun k hk e => by
          rcases HNE.out with h | h
          · rw [h] at hk; cases hk
          · exact h (hk.trans e.symm)
        have hB4 : Below w2.heap.size w2 w4 := HB.out.trans (below_grown ((Below.refl w2.heap.size wr).alloc HB.out.size (.cells #[.int .i64 x] 3)) HO8.out (Nat.le_refl _) HB.out.size hg4)
        have hne4 : u7.ownBlock = none ∨ u7.ownBlock ≠ v4.ownBlock := by
          rcases hat4 with h | h
          · rw [h]; exact HNE.out
          · refine .inr fun e => ?_
            rw [h] at e
            have := (HO7.out.lt _ e).2
            omega
        have HOT := Lib.hid hoth
        have HB4 := Lib.hid hB4
        have HNE4 := Lib.hid hne4
        have HO4 := Lib.hid ho4
        clear hA2 hoth hB4 hne4 ho4 hg4 hat4
        go_wp2_with fail
        go_roundg (gk - 1)
        case measure => omega
        case rel =>
          have e7 : (xs.take (j + 1)).filter (fun x => ltO o x key) = A := by
            rw [List.take_add_one, HX.out, Option.toList_some, List.filter_append, ← HA.out, List.filter_cons, if_neg (by rw [HLT.out]; simp)]
            simp
          have e8 : (xs.take (j + 1)).filter (fun x => !ltO o x key) = B ++ [x] := by
            rw [List.take_add_one, HX.out, Option.toList_some, List.filter_append, ← HBL.out, List.filter_cons, if_pos (by rw [HLT.out]; rfl)]
            rfl
          refine ⟨j + 1, by omega, rfl, ?_, ?_, HNE4.out, HB4.out⟩
          · rw [e7]
            have h := HOT.out
            rw [← HPA.out]; exact h
          · rw [e8]
            have h := HO4.out
            rw [List.length_append, List.map_append, ← HQB.out]; exact h
    · have h1 : decide ((j : Int) < (n : Int)) = false := by simp; omega
      have hjn : j = n := by omega
      have hAA : A = xs.filter fun x => ltO o x key := by rw [HA.out, List.take_of_length_le (by rw [hjn, HN.out]; exact Nat.le_refl _)]
      have hBB : B = xs.filter fun x => !ltO o x key := by rw [HBL.out, List.take_of_length_le (by rw [hjn, HN.out]; exact Nat.le_refl _)]
      have HAA := Lib.hid hAA
      have HBB := Lib.hid hBB
      have HV7 : Hid (IV wr u7 A) := IV.of_own HPA.out rfl HO7.out
      have HV8 : Hid (IV wr u8 B) := IV.of_own HQB.out rfl HO8.out
      have HBR : Hid (Below w.heap.size w wr) := HB2.out.trans (HB.out.mono HB2.out.size)
      obtain ⟨a7, c7, rfl⟩ := own_len HO7.out
      obtain ⟨a8, c8, rfl⟩ := own_len HO8.out
      clear hAA hBB hjn HO7 HO8 HNE
      have hB1 : Below wr.heap.size wr (wr.alloc (.cells haskCells 27)) := (Below.refl _ _).alloc (Nat.le_refl _) _
      have HA1 := Lib.hid (ask_w o (.slice a7 p c7) A _ hask (wr.alloc (.cells haskCells 27)) ((HV7.out.rdi).below hB1) (by rw [← HPA.out]; have := HPQ.out; have := HN3.out; omega) (hask_stps wr) (by decide) hask_ok)
      have HX1 : Hid (Below w.heap.size w (wr.alloc (.cells haskCells 27))) := HBR.out.trans (hB1.mono HBR.out.size)
      unfold haskCells at HA1 HX1
      clear hB1
      go_wp2_with fail
      refine HA1.out.mono ?_
      rintro e y1 ⟨t1, rfl, ht1, hb1⟩
      obtain ⟨g1, q1, cc1, k1, vv1, rfl, hat1⟩ := hask_told ht1
      have HAT1 := Lib.hid hat1
      have HY1 : Hid (Below w.heap.size w y1) := HX1.out.trans (hb1.mono HX1.out.size)
      have HZ1 : Hid (Below wr.heap.size wr y1) := ((Below.refl wr.heap.size wr).alloc (Nat.le_refl _) _).trans (hb1.mono (by rw [size_alloc]; exact Nat.le_succ _))
      clear HA1 HX1 ht1 hb1 hat1
      have hB2 : Below y1.heap.size y1 (y1.alloc (.cells haskCells 27)) := (Below.refl _ _).alloc (Nat.le_refl _) _
      have HA2 := Lib.hid (ask_w o (.slice a8 q c8) B _ hask (y1.alloc (.cells haskCells 27)) (((HV8.out.kb (by decide) (KB.of_below 0 HZ1.out)).rdi).below hB2) (by rw [← HQB.out]; have := HPQ.out; have := HN3.out; omega) (hask_stps y1) (by decide) hask_ok)
      have HX2 : Hid (Below w.heap.size w (y1.alloc (.cells haskCells 27))) := HY1.out.trans (hB2.mono HY1.out.size)
      unfold haskCells at HA2 HX2
      clear hB2
      go_wp2_with fail
      refine HA2.out.mono ?_
      rintro e y2 ⟨t2, rfl, ht2, hb2⟩
      obtain ⟨g2, q2, cc2, k2, vv2, rfl, hat2⟩ := hask_told ht2
      have HAT2 := Lib.hid hat2
      have HY2 : Hid (Below w.heap.size w y2) := HX2.out.trans (hb2.mono HX2.out.size)
      have HZ2 : Hid (Below y1.heap.size y1 y2) := ((Below.refl y1.heap.size y1).alloc (Nat.le_refl _) _).trans (hb2.mono (by rw [size_alloc]; exact Nat.le_succ _))
      clear HA2 HX2 ht2 hb2 hat2
      have hB3 : Below y2.heap.size y2 (y2.alloc (.cells haskCells 27)) := (Below.refl _ _).alloc (Nat.le_refl _) _
      have HA3 := Lib.hid (ask_w o (.slice ua n uc) xs _ hask (y2.alloc (.cells haskCells 27)) ((HU.out.rdi.below HY2.out).below hB3) (by rw [← HN.out]; have := HPQ.out; have := HN3.out; omega) (hask_stps y2) (by decide) hask_ok)
      have HX3 : Hid (Below w.heap.size w (y2.alloc (.cells haskCells 27))) := HY2.out.trans (hB3.mono HY2.out.size)
      unfold haskCells at HA3 HX3
      clear hB3
      go_wp2_with fail
      refine HA3.out.mono ?_
      rintro e y3 ⟨t3, rfl, ht3, hb3⟩
      obtain ⟨g3, q3, cc3, k3, vv3, rfl, hat3⟩ := hask_told ht3
      have HAT3 := Lib.hid hat3
      have HY3 : Hid (Below w.heap.size w y3) := HX3.out.trans (hb3.mono HX3.out.size)
      have HZ3 : Hid (Below y2.heap.size y2 y3) := ((Below.refl y2.heap.size y2).alloc (Nat.le_refl _) _).trans (hb3.mono (by rw [size_alloc]; exact Nat.le_succ _))
      clear HA3 HX3 ht3 hb3 hat3
      go_upto_region 16 with (fail)
      obtain ⟨K1, hK1⟩ : ∃ l, l = (fill (ltO o) 0 A []).map (·.1) := ⟨_, rfl⟩
      obtain ⟨K2, hK2⟩ : ∃ l, l = (fill (ltO o) 0 B []).map (·.1) := ⟨_, rfl⟩
      have hK3 : (fill (ltO o) 0 xs []).map (·.1) = K1 ++ K2 := by rw [hK1, hK2, HAA.out, HBB.out, fill_halves (ord_ltO o)]
      have hl1 : K1.length ≤ 60 := by
        rw [hK1, List.length_map]
        have h1 := fill_len (ord_ltO o) A 0 (es := []) List.Pairwise.nil
        have := HPA.out
        have := HPQ.out
        have := HN3.out
        rw [← HPA.out, List.length_nil] at h1
        omega
      have hl2 : K2.length ≤ 60 := by
        rw [hK2, List.length_map]
        have h1 := fill_len (ord_ltO o) B 0 (es := []) List.Pairwise.nil
        have := HPQ.out
        have := HN3.out
        rw [← HQB.out, List.length_nil] at h1
        omega
      have HL1 := Lib.hid hl1
      have HL2 := Lib.hid hl2
      have HZ23 : Hid (Below y1.heap.size y1 y3) := HZ2.out.trans (HZ3.out.mono HZ2.out.size)
      have HAI : Hid (∀ W, Below y3.heap.size y3 W → haskAt W g1 q1 (fill (ltO o) 0 A []) k1 vv1 ∧ haskAt W g2 q2 (fill (ltO o) 0 B []) k2 vv2 ∧ haskAt W g3 q3 (fill (ltO o) 0 xs []) k3 vv3) := fun W hW => ⟨(HAT1.out.below HZ23.out).below hW, (HAT2.out.below HZ3.out).below hW, HAT3.out.below hW⟩
      have HI2 : Hid (∀ W, Below y3.heap.size y3 W → IV W k1 K1 ∧ IV W k2 K2 ∧ IV W k3 (K1 ++ K2)) := by
        intro W hW
        obtain ⟨h1, h2, h3⟩ := HAI.out W hW
        rw [← hK3, hK1, hK2]
        exact ⟨h1.2.1, h2.2.1, h3.2.1⟩
      have HC0 : Hid (∀ W, Below y3.heap.size y3 W → W.cell? ⟨g1, q1 + 2, none⟩ = some k1 ∧ W.cell? ⟨g2, q2 + 2, none⟩ = some k2 ∧ W.cell? ⟨g3, q3 + 2, none⟩ = some k3) := fun W hW => by
        obtain ⟨h1, h2, h3⟩ := HAI.out W hW
        exact ⟨h1.1.1, h2.1.1, h3.1.1⟩
      obtain ⟨ka, kc, rfl⟩ := (HI2.out _ (Below.refl _ _)).2.1.slice
      have HR0 : Hid (Below y3.heap.size y3 y3.drew) := (Below.refl _ y3).drew
      have hbase : y3.drew.heap.size = y3.heap.size := rfl
      have HBASE := Lib.hid hbase
      clear hK1 hK2 hK3 hl1 hl2 HAI HAT1 HAT2 HAT3 HZ1 HZ2 HZ3 HZ23 HV7 HV8 HAA HBB HA HBL HPA HQB hbase
      refine region_tree (fun W => Below y3.heap.size y3 W) (.one [0, 1, 2, 3, 4, 5, 6, 7, 8, 9, 10, 11, 13, 14, 15, 16, 18, 19, 20, 21] 12 (.one [] 17 (.one [] 22 (.one [23, 24] 25 (.one [26] 27 .stop))))) (by kernel_rfl) (by intro dst v c a w h; cases dst <;> exact h) (by kernel_rfl) HR0.out ?_
      refine t_one ?_
      simp only [opsOf, List.getElem?_toArray, List.getElem?_cons_succ, List.getElem?_cons_zero]
      repeat (refine r_read ?_ (by kernel_rfl) ?_ (fun K hK => ?_); rotate_left 1; (intro W hR; obtain ⟨p1, p2, p3⟩ := HC0.out W hR; clear hR; go_simp; try with_reducible rfl); go_simp; refine hK _ ?_; clear hK K)
      refine t_nil1 ?_
      refine r_op rfl (fun K hK => ?_)
      go_simp
      refine (cloneI_w _ _ _ ((HI2.out _ HR0.out).1.rdn) (by have := HL1.out; omega)).mono ?_
      rintro e x1 ⟨r1, rfl, ho1, hb1⟩
      have HO1 := Lib.hid ho1
      have HR1 : Hid (Below y3.heap.size y3 x1) := HR0.out.trans (hb1.mono HR0.out.size)
      obtain ⟨ra1, rc1, rfl⟩ := own_len ho1
      clear ho1 hb1
      refine hK _ _ HR1.out ?_
      clear hK K
      refine t_one0 ?_
      refine r_op rfl (fun K hK => ?_)
      obtain ⟨-, i2, -⟩ := HI2.out _ HR1.out
      obtain ⟨ka', kc', e1, e2, e3⟩ := i2.rdn
      simp only [Value.slice.injEq, true_and] at e1
      obtain ⟨rfl, rfl⟩ := e1
      refine ite_yes (by kernel_rfl) ?_
      refine app_any (.tmp 87) (.tmp 91) rfl y3.heap.size K1.length _ (K1.map (Value.int .i64)) rfl HO1.out (by have := HL1.out; omega) K2 (by have := HL2.out; omega) ka kc rfl e2 (fun i y hy => e3 i y hy) HR1.out.size ?_
      intro r2 x2 ho2 hg2 _
      have HO2 := Lib.hid ho2
      have HR2 : Hid (Below y3.heap.size y3 x2) := HR1.out.trans (below_grown (Below.refl y3.heap.size _) HO1.out (Nat.le_refl _) HR1.out.size hg2)
      obtain ⟨ra2, rc2, rfl⟩ := own_len ho2
      clear ho2 hg2 i2 e2 e3
      refine hK _ _ HR2.out ?_
      clear hK K
      refine t_one0 ?_
      refine r_op rfl (fun K hK => ?_)
      go_simp
      refine (same_c (w := x2) (xs := K1 ++ K2) (IV.of_own (by rw [List.length_append]) (by rw [List.map_append]) HO2.out).rdi (HI2.out _ HR2.out).2.2.rdi (by rw [List.length_append]; have := HL1.out; have := HL2.out; omega) x2 (Below.refl _ _)).mono ?_
      rintro e x3 ⟨rfl, hb3⟩
      have HR3 : Hid (Below y3.heap.size y3 x3) := HR2.out.trans (hb3.mono HR2.out.size)
      clear hb3
      refine hK _ _ HR3.out ?_
      clear hK K
      refine t_one ?_
      simp only [opsOf, List.getElem?_toArray, List.getElem?_cons_succ, List.getElem?_cons_zero]
      repeat (refine r_read ?_ (by kernel_rfl) ?_ (fun K hK => ?_); rotate_left 1; (intro W hR; obtain ⟨p1, p2, p3⟩ := HC0.out W hR; clear hR; go_simp; try with_reducible rfl); go_simp; refine hK _ ?_; clear hK K)
      refine t_nil1 ?_
      refine r_op rfl (fun K hK => ?_)
      go_simp
      refine (awake_w x3).mono ?_
      rintro e x4 ⟨rfl, hb4⟩
      have HR4 : Hid (Below y3.heap.size y3 x4) := HR3.out.trans (hb4.mono HR3.out.size)
      clear hb4
      refine hK _ _ HR4.out ?_
      clear hK K
      refine t_one ?_
      simp only [opsOf, List.getElem?_toArray, List.getElem?_cons_succ, List.getElem?_cons_zero]
      repeat (refine r_read ?_ (by kernel_rfl) ?_ (fun K hK => ?_); rotate_left 1; (intro W hR; obtain ⟨p1, p2, p3⟩ := HC0.out W hR; clear hR; go_simp; try with_reducible rfl); go_simp; refine hK _ ?_; clear hK K)
      refine t_nil1 ?_
      refine r_op rfl (fun K hK => ?_)
      go_simp
      refine hK _ _ HR4.out ?_
      clear hK K
      refine t_end ?_
      have HBE : Hid (Below w.heap.size w x4) := HY3.out.trans (HR4.out.mono HY3.out.size)
      clear HC0 HI2 HO1 HO2
      go_wp2_with fail
      refine bodyPost_ret (results_tmp rfl _ _ _) rfl ?_
      exact ⟨rfl, HBE.out⟩
theorem lhalves_c (c : Int) (hc : 0 ≤ c) (u : Value) (xs : List Int) (key : Int) (w : World) (hu : RdN w u xs) : Calls Try.prog 4 #[.int .u8 c, u, .int .i64 key] w fun e w' => e = .returned (.bool true) ∧ Below w.heap.size w w' := by
  obtain ⟨o, rfl⟩ : ∃ o : Nat, c = (o : Int) := ⟨c.toNat, by omega⟩
  exact lhalves_w o u xs key w hu
end Go.Proofs.Ytefigjdebakccaa
