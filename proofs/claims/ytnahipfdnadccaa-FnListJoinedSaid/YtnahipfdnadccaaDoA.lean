/- spec.ListDo: the kinds 0 to 3. Conditions of this file: none. -/
import Derived.Test.YtnahipfdnadccaaDoP
import Derived.Deep.DeepCutAuto
import Derived.Deep.CutBlock
import Derived.Deep.LoopGhost
import Derived.Laws.AppendOwnNone
namespace Go.Proofs.Ytnahipfdnadccaa
open Go.RowKit

set_option maxRecDepth 100000 in
set_option maxHeartbeats 1600000 in
theorem do_w0 (u : Value) (xs : List Int) (F I E V : Int) (w : World) (hs : SlN w u (xs.map (Value.int .i64))) (hl : xs.length ≤ 2147483647) :
    Calls Try.prog 32 #[u, .agg #[.int .u8 0, .int .i64 F, .int .i64 I, .int .i64 E, .int .i64 V]] w (DoPost w xs 0 I E V) := by
  obtain ⟨i2, hi, hz0, hz1, hz2⟩ := info_parts info2
  have HI := Lib.hid (And.intro hi (And.intro hz0 (And.intro hz1 hz2)))
  clear hi hz0 hz1 hz2
  have hown0 := made0 w #[.int .u8 0, .int .i64 F, .int .i64 I, .int .i64 E, .int .i64 V]
  have HO := Lib.hid hown0
  have HS := Lib.hid hs
  obtain ⟨a, cap, rfl, hnil, hcells⟩ := hs
  have HC := Lib.hid hcells
  have HLN : Hid (xs.length = (xs.map (Value.int .i64)).length) := by show _ = _; simp
  clear hown0 hcells
  rw [← HLN.out]
  go_enter Try.func32, Try.ntmps32
  go_upto_region 1 with (fail)
  go_cut [6] from 10 to 12 (fun v6 wc => DoAt w #[.int .u8 0, .int .i64 F, .int .i64 I, .int .i64 E, .int .i64 V] xs v6 wc)
  case first =>
    cases a with
    | none =>
      have hc0 := hnil rfl
      subst hc0
      have hx0 : xs = [] := by
        cases xs with
        | nil => rfl
        | cons x r => obtain ⟨g, o, h, _⟩ := HC.out 0 _ rfl; cases h
      subst hx0
      go_wp2_with (at_builtin; refine wpList_append_own_none rfl (.tmp 10) (.tmp 11) 32 rfl w.heap.size 2 i2 1 Try.underlying32 HI.out.1 _ 0 [] rfl HO.out rfl ?_)
      go_meet
      case rel => exact do_at0 w _
    | some ad =>
      go_wp2_with (at_builtin; refine wpList_append_own _ rfl (.tmp 10) (.tmp 11) 32 rfl w.heap.size 2 i2 (.int .i64 0) 1 8 Try.underlying32 HI.out.1 HI.out.2.1 HI.out.2.2.1 HI.out.2.2.2 rfl (by decide) _ _ _ rfl HO.out ad xs.length cap (xs.map (Value.int .i64)) rfl (by simp) (do_news HS.out HLN.out) (ints_one xs) (by unfold maxLen; omega) (by omega) (by simp; omega) ?_)
      intro v1 w1 hown1 hgrow1 hnil1
      have HW1 := Lib.hid (do_at1 hown1 hgrow1 hnil1)
      clear hown1 hgrow1 hnil1
      go_wp2_with fail
      go_meet
      case rel => exact HW1.out
  case rest =>
    obtain ⟨g, gc, rfl, ho, hb, hbs, hgb⟩ := hcut
    have HOW := Lib.hid ho
    have HB := Lib.hid hb
    have HBS := Lib.hid hbs
    have hs0 := cell_at (j := 0) hbs rfl
    have hs2 := cell_at (j := 2) hbs rfl
    have hs3 := cell_at (j := 3) hbs rfl
    have hs4 := cell_at (j := 4) hbs rfl
    clear ho hb hbs hnil HO HC
    go_wp2_with (at_builtin; refine wpList_append_own _ rfl (.tmp 17) (.tmp 20) 32 rfl w.heap.size 2 i2 (.int .i64 0) 1 8 Try.underlying32 HI.out.1 HI.out.2.1 HI.out.2.2.1 HI.out.2.2.2 rfl (by decide) _ _ _ rfl (HOW.out.alloc _) ⟨wc.heap.size, 0, none⟩ 1 1 [.int .i64 V] rfl rfl (new_cell _ _ _) (one_oneCell rfl) (by unfold maxLen; omega) (by omega) (by have := HB.out.size; simp; omega) ?_)
    intro v2 w2 hown2 hgrow2 hnil2
    have HW2 := Lib.hid (do_end (k := 0) (I := I) (E := E) (V := V) (ys := xs ++ [V]) (HB.out.alloc HB.out.size _) hgrow2 (HOW.out.lt g rfl).1 hown2 hnil2 (by simp) rfl)
    clear hown2 hgrow2 hnil2
    go_wp2_with fail
    refine bodyPost_ret (results_tmp2 rfl _ _ _) rfl ?_
    exact HW2.out

set_option maxRecDepth 100000 in
set_option maxHeartbeats 1600000 in
theorem do_w1 (u : Value) (xs : List Int) (F I E V : Int) (w : World) (hs : SlN w u (xs.map (Value.int .i64))) (hl : xs.length ≤ 2147483647) :
    Calls Try.prog 32 #[u, .agg #[.int .u8 1, .int .i64 F, .int .i64 I, .int .i64 E, .int .i64 V]] w (DoPost w xs 1 I E V) := by
  obtain ⟨i2, hi, hz0, hz1, hz2⟩ := info_parts info2
  have HI := Lib.hid (And.intro hi (And.intro hz0 (And.intro hz1 hz2)))
  clear hi hz0 hz1 hz2
  have hown0 := made0 w #[.int .u8 1, .int .i64 F, .int .i64 I, .int .i64 E, .int .i64 V]
  have HO := Lib.hid hown0
  have HS := Lib.hid hs
  obtain ⟨a, cap, rfl, hnil, hcells⟩ := hs
  have HC := Lib.hid hcells
  have HLN : Hid (xs.length = (xs.map (Value.int .i64)).length) := by show _ = _; simp
  clear hown0 hcells
  rw [← HLN.out]
  go_enter Try.func32, Try.ntmps32
  go_upto_region 1 with (fail)
  go_cut [6] from 10 to 12 (fun v6 wc => DoAt w #[.int .u8 1, .int .i64 F, .int .i64 I, .int .i64 E, .int .i64 V] xs v6 wc)
  case first =>
    cases a with
    | none =>
      have hc0 := hnil rfl
      subst hc0
      have hx0 : xs = [] := by
        cases xs with
        | nil => rfl
        | cons x r => obtain ⟨g, o, h, _⟩ := HC.out 0 _ rfl; cases h
      subst hx0
      go_wp2_with (at_builtin; refine wpList_append_own_none rfl (.tmp 10) (.tmp 11) 32 rfl w.heap.size 2 i2 1 Try.underlying32 HI.out.1 _ 0 [] rfl HO.out rfl ?_)
      go_meet
      case rel => exact do_at0 w _
    | some ad =>
      go_wp2_with (at_builtin; refine wpList_append_own _ rfl (.tmp 10) (.tmp 11) 32 rfl w.heap.size 2 i2 (.int .i64 0) 1 8 Try.underlying32 HI.out.1 HI.out.2.1 HI.out.2.2.1 HI.out.2.2.2 rfl (by decide) _ _ _ rfl HO.out ad xs.length cap (xs.map (Value.int .i64)) rfl (by simp) (do_news HS.out HLN.out) (ints_one xs) (by unfold maxLen; omega) (by omega) (by simp; omega) ?_)
      intro v1 w1 hown1 hgrow1 hnil1
      have HW1 := Lib.hid (do_at1 hown1 hgrow1 hnil1)
      clear hown1 hgrow1 hnil1
      go_wp2_with fail
      go_meet
      case rel => exact HW1.out
  case rest =>
    obtain ⟨g, gc, rfl, ho, hb, hbs, hgb⟩ := hcut
    have HOW := Lib.hid ho
    have HB := Lib.hid hb
    have HBS := Lib.hid hbs
    have hs0 := cell_at (j := 0) hbs rfl
    have hs2 := cell_at (j := 2) hbs rfl
    have hs3 := cell_at (j := 3) hbs rfl
    have hs4 := cell_at (j := 4) hbs rfl
    clear ho hb hbs hnil HO HC
    go_wp2_with (at_builtin; refine wpList_append_own _ rfl (.tmp 26) (.tmp 27) 32 rfl w.heap.size 2 i2 (.int .i64 0) 1 8 Try.underlying32 HI.out.1 HI.out.2.1 HI.out.2.2.1 HI.out.2.2.2 rfl (by decide) _ _ _ rfl (built1 wc _ HB.out.size) ⟨g, 0, none⟩ xs.length gc (xs.map (Value.int .i64)) rfl (by simp) (own_news HOW.out _) (ints_one xs) (by unfold maxLen; omega) (by omega) (by have := HB.out.size; simp; omega) ?_)
    intro v2 w2 hown2 hgrow2 hnil2
    have HW2 := Lib.hid (do_end (xs := xs) (k := 1) (I := I) (E := E) (V := V) (ys := V :: xs) (HB.out.alloc HB.out.size _) hgrow2 HB.out.size hown2 hnil2 (by simp) rfl)
    clear hown2 hgrow2 hnil2
    go_wp2_with fail
    refine bodyPost_ret (results_tmp2 rfl _ _ _) rfl ?_
    exact HW2.out

set_option maxRecDepth 100000 in
set_option maxHeartbeats 1600000 in
theorem do_w2 (u : Value) (xs : List Int) (F I E V : Int) (w : World) (hs : SlN w u (xs.map (Value.int .i64))) (hl : xs.length ≤ 2147483647) :
    Calls Try.prog 32 #[u, .agg #[.int .u8 2, .int .i64 F, .int .i64 I, .int .i64 E, .int .i64 V]] w (DoPost w xs 2 I E V) := by
  obtain ⟨i2, hi, hz0, hz1, hz2⟩ := info_parts info2
  have HI := Lib.hid (And.intro hi (And.intro hz0 (And.intro hz1 hz2)))
  clear hi hz0 hz1 hz2
  have hown0 := made0 w #[.int .u8 2, .int .i64 F, .int .i64 I, .int .i64 E, .int .i64 V]
  have HO := Lib.hid hown0
  have HS := Lib.hid hs
  obtain ⟨a, cap, rfl, hnil, hcells⟩ := hs
  have HC := Lib.hid hcells
  have HLN : Hid (xs.length = (xs.map (Value.int .i64)).length) := by show _ = _; simp
  clear hown0 hcells
  rw [← HLN.out]
  go_enter Try.func32, Try.ntmps32
  go_upto_region 1 with (fail)
  go_cut [6] from 10 to 12 (fun v6 wc => DoAt w #[.int .u8 2, .int .i64 F, .int .i64 I, .int .i64 E, .int .i64 V] xs v6 wc)
  case first =>
    cases a with
    | none =>
      have hc0 := hnil rfl
      subst hc0
      have hx0 : xs = [] := by
        cases xs with
        | nil => rfl
        | cons x r => obtain ⟨g, o, h, _⟩ := HC.out 0 _ rfl; cases h
      subst hx0
      go_wp2_with (at_builtin; refine wpList_append_own_none rfl (.tmp 10) (.tmp 11) 32 rfl w.heap.size 2 i2 1 Try.underlying32 HI.out.1 _ 0 [] rfl HO.out rfl ?_)
      go_meet
      case rel => exact do_at0 w _
    | some ad =>
      go_wp2_with (at_builtin; refine wpList_append_own _ rfl (.tmp 10) (.tmp 11) 32 rfl w.heap.size 2 i2 (.int .i64 0) 1 8 Try.underlying32 HI.out.1 HI.out.2.1 HI.out.2.2.1 HI.out.2.2.2 rfl (by decide) _ _ _ rfl HO.out ad xs.length cap (xs.map (Value.int .i64)) rfl (by simp) (do_news HS.out HLN.out) (ints_one xs) (by unfold maxLen; omega) (by omega) (by simp; omega) ?_)
      intro v1 w1 hown1 hgrow1 hnil1
      have HW1 := Lib.hid (do_at1 hown1 hgrow1 hnil1)
      clear hown1 hgrow1 hnil1
      go_wp2_with fail
      go_meet
      case rel => exact HW1.out
  case rest =>
    obtain ⟨g, gc, rfl, ho, hb, hbs, hgb⟩ := hcut
    have HOW := Lib.hid ho
    have HB := Lib.hid hb
    have HBS := Lib.hid hbs
    have hs0 := cell_at (j := 0) hbs rfl
    have hs2 := cell_at (j := 2) hbs rfl
    have hs3 := cell_at (j := 3) hbs rfl
    have hs4 := cell_at (j := 4) hbs rfl
    clear ho hb hbs hnil HO HC
    by_cases c1 : I < 0
    · have d1 : decide (I < 0) = true := by simp [c1]
      have HE := Lib.hid (do_same (k := 2) (I := I) (E := E) (V := V) HB.out HOW.out (by unfold stepOf; rw [if_neg (by decide), if_neg (by decide), if_pos rfl, if_neg (by omega)]))
      go_wp2_with fail
      refine bodyPost_ret (results_tmp2 rfl _ _ _) rfl ?_
      exact HE.out
    · have d1 : decide (I < 0) = false := by simp; omega
      by_cases c2 : (xs.length : Int) ≤ I
      · have d2 : decide ((xs.length : Int) ≤ I) = true := by simp; omega
        have HE := Lib.hid (do_same (k := 2) (I := I) (E := E) (V := V) HB.out HOW.out (by unfold stepOf; rw [if_neg (by decide), if_neg (by decide), if_pos rfl, if_neg (by omega)]))
        go_wp2_with fail
        refine bodyPost_ret (results_tmp2 rfl _ _ _) rfl ?_
        exact HE.out
      · have d2 : decide ((xs.length : Int) ≤ I) = false := by simp; omega
        obtain ⟨i, rfl⟩ : ∃ i : Nat, I = i := ⟨I.toNat, by omega⟩
        have hi : i < xs.length := by omega
        obtain ⟨x, hx⟩ : ∃ x, xs[i]? = some x := ⟨xs[i], List.getElem?_eq_getElem hi⟩
        have hcx := own_cell HOW.out (u := .int .i64 x) (by rw [List.getElem?_map, hx]; rfl)
        have hfx := own_free HOW.out hi
        have HE := Lib.hid (do_set (E := E) (V := V) HB.out HOW.out hi)
        clear hx
        go_wp2_with fail
        refine bodyPost_ret (results_tmp2 rfl _ _ _) rfl ?_
        exact HE.out

set_option maxRecDepth 100000 in
set_option maxHeartbeats 1600000 in
theorem do_w3 (u : Value) (xs : List Int) (F I E V : Int) (w : World) (hs : SlN w u (xs.map (Value.int .i64))) (hl : xs.length ≤ 2147483647) :
    Calls Try.prog 32 #[u, .agg #[.int .u8 3, .int .i64 F, .int .i64 I, .int .i64 E, .int .i64 V]] w (DoPost w xs 3 I E V) := by
  obtain ⟨i2, hi, hz0, hz1, hz2⟩ := info_parts info2
  have HI := Lib.hid (And.intro hi (And.intro hz0 (And.intro hz1 hz2)))
  clear hi hz0 hz1 hz2
  have hown0 := made0 w #[.int .u8 3, .int .i64 F, .int .i64 I, .int .i64 E, .int .i64 V]
  have HO := Lib.hid hown0
  have HS := Lib.hid hs
  obtain ⟨a, cap, rfl, hnil, hcells⟩ := hs
  have HC := Lib.hid hcells
  have HLN : Hid (xs.length = (xs.map (Value.int .i64)).length) := by show _ = _; simp
  clear hown0 hcells
  rw [← HLN.out]
  go_enter Try.func32, Try.ntmps32
  go_upto_region 1 with (fail)
  go_cut [6] from 10 to 12 (fun v6 wc => DoAt w #[.int .u8 3, .int .i64 F, .int .i64 I, .int .i64 E, .int .i64 V] xs v6 wc)
  case first =>
    cases a with
    | none =>
      have hc0 := hnil rfl
      subst hc0
      have hx0 : xs = [] := by
        cases xs with
        | nil => rfl
        | cons x r => obtain ⟨g, o, h, _⟩ := HC.out 0 _ rfl; cases h
      subst hx0
      go_wp2_with (at_builtin; refine wpList_append_own_none rfl (.tmp 10) (.tmp 11) 32 rfl w.heap.size 2 i2 1 Try.underlying32 HI.out.1 _ 0 [] rfl HO.out rfl ?_)
      go_meet
      case rel => exact do_at0 w _
    | some ad =>
      go_wp2_with (at_builtin; refine wpList_append_own _ rfl (.tmp 10) (.tmp 11) 32 rfl w.heap.size 2 i2 (.int .i64 0) 1 8 Try.underlying32 HI.out.1 HI.out.2.1 HI.out.2.2.1 HI.out.2.2.2 rfl (by decide) _ _ _ rfl HO.out ad xs.length cap (xs.map (Value.int .i64)) rfl (by simp) (do_news HS.out HLN.out) (ints_one xs) (by unfold maxLen; omega) (by omega) (by simp; omega) ?_)
      intro v1 w1 hown1 hgrow1 hnil1
      have HW1 := Lib.hid (do_at1 hown1 hgrow1 hnil1)
      clear hown1 hgrow1 hnil1
      go_wp2_with fail
      go_meet
      case rel => exact HW1.out
  case rest =>
    obtain ⟨g, gc, rfl, ho, hb, hbs, hgb⟩ := hcut
    have HOW := Lib.hid ho
    have HB := Lib.hid hb
    have HBS := Lib.hid hbs
    have hs0 := cell_at (j := 0) hbs rfl
    have hs2 := cell_at (j := 2) hbs rfl
    have hs3 := cell_at (j := 3) hbs rfl
    have hs4 := cell_at (j := 4) hbs rfl
    clear ho hb hbs hnil HO HC
    by_cases c1 : I < 0
    · have d1 : decide (I < 0) = true := by simp [c1]
      have HE := Lib.hid (do_same (k := 3) (I := I) (E := E) (V := V) HB.out HOW.out (by unfold stepOf; rw [if_neg (by decide), if_neg (by decide), if_neg (by decide), if_pos rfl, if_neg (by omega)]))
      go_wp2_with fail
      refine bodyPost_ret (results_tmp2 rfl _ _ _) rfl ?_
      exact HE.out
    · have d1 : decide (I < 0) = false := by simp; omega
      by_cases c2 : E < I
      · have d2 : decide (E < I) = true := by simp [c2]
        have HE := Lib.hid (do_same (k := 3) (I := I) (E := E) (V := V) HB.out HOW.out (by unfold stepOf; rw [if_neg (by decide), if_neg (by decide), if_neg (by decide), if_pos rfl, if_neg (by omega)]))
        go_wp2_with fail
        refine bodyPost_ret (results_tmp2 rfl _ _ _) rfl ?_
        exact HE.out
      · have d2 : decide (E < I) = false := by simp; omega
        by_cases c3 : (xs.length : Int) < E
        · have d3 : decide ((xs.length : Int) < E) = true := by simp [c3]
          have HE := Lib.hid (do_same (k := 3) (I := I) (E := E) (V := V) HB.out HOW.out (by unfold stepOf; rw [if_neg (by decide), if_neg (by decide), if_neg (by decide), if_pos rfl, if_neg (by omega)]))
          go_wp2_with fail
          refine bodyPost_ret (results_tmp2 rfl _ _ _) rfl ?_
          exact HE.out
        · have d3 : decide ((xs.length : Int) < E) = false := by simp; omega
          obtain ⟨a', n', c', hrun, hE⟩ := do_cut' (V := V) HB.out HOW.out (I := I) (E := E) (by omega) (by omega) (by omega)
          have HE := Lib.hid hE
          clear hE c1 c2 c3
          go_wp2_with fail
          refine bodyPost_ret (results_tmp2 rfl _ _ _) rfl ?_
          exact HE.out

end Go.Proofs.Ytnahipfdnadccaa
