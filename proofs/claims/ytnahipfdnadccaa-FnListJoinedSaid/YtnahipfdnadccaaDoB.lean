/- spec.ListDo: the kinds 4 and 5. Conditions of this file: none. -/
import Derived.Test.YtnahipfdnadccaaDoP
import Derived.Deep.DeepCutAuto
import Derived.Deep.CutBlock
import Derived.Deep.LoopGhost
import Derived.Laws.AppendOwnNone
namespace Go.Proofs.Ytnahipfdnadccaa
open Go.RowKit

set_option maxRecDepth 100000 in
set_option maxHeartbeats 1600000 in
theorem do_w4 (u : Value) (xs : List Int) (F I E V : Int) (w : World) (hs : SlN w u (xs.map (Value.int .i64))) (hl : xs.length ≤ 2147483647) (hI : 0 ≤ I ∧ I ≤ 100000) :
    Calls Try.prog 32 #[u, .agg #[.int .u8 4, .int .i64 F, .int .i64 I, .int .i64 E, .int .i64 V]] w (DoPost w xs 4 I E V) := by
  obtain ⟨i2, hi, hz0, hz1, hz2⟩ := info_parts info2
  have HI := Lib.hid (And.intro hi (And.intro hz0 (And.intro hz1 hz2)))
  clear hi hz0 hz1 hz2
  have hown0 := made0 w #[.int .u8 4, .int .i64 F, .int .i64 I, .int .i64 E, .int .i64 V]
  have HO := Lib.hid hown0
  have HS := Lib.hid hs
  obtain ⟨a, cap, rfl, hnil, hcells⟩ := hs
  have HC := Lib.hid hcells
  have HLN : Hid (xs.length = (xs.map (Value.int .i64)).length) := by show _ = _; simp
  clear hown0 hcells
  rw [← HLN.out]
  go_enter Try.func32, Try.ntmps32
  go_upto_region 1 with (fail)
  go_cut [6] from 10 to 12 (fun v6 wc => DoAt w #[.int .u8 4, .int .i64 F, .int .i64 I, .int .i64 E, .int .i64 V] xs v6 wc)
  case first =>
    cases a with
    | none =>
      have hc0 := hnil rfl
      subst hc0
      have hx0 : xs = [] := by
        cases xs with
        | nil => rfl
        | cons x r => obtain ⟨g, o, h, _⟩ := HC.out 0 _ rfl; cases h
      subst hx0
      go_wp2_with (at_builtin; refine wpList_append_own_none rfl (.tmp 10) (.tmp 11) 32 rfl w.heap.size 2 i2 1 Try.underlying32 HI.out.1 _ 0 [] rfl HO.out rfl ?_)
      go_meet
      case rel => exact do_at0 w _
    | some ad =>
      go_wp2_with (at_builtin; refine wpList_append_own _ rfl (.tmp 10) (.tmp 11) 32 rfl w.heap.size 2 i2 (.int .i64 0) 1 8 Try.underlying32 HI.out.1 HI.out.2.1 HI.out.2.2.1 HI.out.2.2.2 rfl (by decide) _ _ _ rfl HO.out ad xs.length cap (xs.map (Value.int .i64)) rfl (by simp) (do_news HS.out HLN.out) (ints_one xs) (by unfold maxLen; omega) (by omega) (by simp; omega) ?_)
      intro v1 w1 hown1 hgrow1 hnil1
      have HW1 := Lib.hid (do_at1 hown1 hgrow1 hnil1)
      clear hown1 hgrow1 hnil1
      go_wp2_with fail
      go_meet
      case rel => exact HW1.out
  case rest =>
    obtain ⟨g, gc, rfl, ho, hb, hbs, hgb⟩ := hcut
    have HOW := Lib.hid ho
    have HB := Lib.hid hb
    have HBS := Lib.hid hbs
    have hs0 := cell_at (j := 0) hbs rfl
    have hs2 := cell_at (j := 2) hbs rfl
    have hs3 := cell_at (j := 3) hbs rfl
    have hs4 := cell_at (j := 4) hbs rfl
    clear ho hb hbs hnil HO HC
    obtain ⟨N, rfl⟩ : ∃ N : Nat, I = N := ⟨I.toNat, by omega⟩
    have hN : N ≤ 100000 := by omega
    have HGB := Lib.hid hgb
    have HN := Lib.hid hN
    have HL := Lib.hid hl
    clear hI hgb hN hl HS HLN
    go_wp2_with fail
    go_loopg [6, 7, 78] N (fun k v6 v7 v78 wr => ∃ j : Nat, j + k = N ∧ v78 = .int .i64 (j : Int) ∧ DoAt w #[.int .u8 4, .int .i64 F, .int .i64 (N : Int), .int .i64 E, .int .i64 V] (xs ++ up j V) v6 wr)
    case atStart => exact ⟨0, by omega, rfl, by rw [up_zero, List.append_nil]; exact ⟨g, gc, rfl, HOW.out, HB.out, HBS.out, HGB.out⟩⟩
    case round =>
      clear HOW HB HBS HGB hs0 hs2 hs3 hs4
      obtain ⟨j, hjk, rfl, gr, gcr, rfl, ho, hb, hbs, hgb⟩ := hrel
      have HD : Hid (DoAt w #[.int .u8 4, .int .i64 F, .int .i64 (N : Int), .int .i64 E, .int .i64 V] (xs ++ up j V) (.slice (some ⟨gr, 0, none⟩) (xs ++ up j V).length gcr) wr) := ⟨gr, gcr, rfl, ho, hb, hbs, hgb⟩
      have HOW := Lib.hid ho
      have HB := Lib.hid hb
      have HBS := Lib.hid hbs
      have HGB := Lib.hid hgb
      have hs4 := cell_at (j := 4) hbs rfl
      have HLY : Hid ((xs ++ up j V).length = xs.length + j) := by show _ = _; simp [up]
      clear ho hb hbs hgb
      generalize hys : xs ++ up j V = ys at HD HOW HLY ⊢
      have HYS := Lib.hid hys
      clear hys
      by_cases hlt : j < N
      · have h1 : decide ((j : Int) < (N : Int)) = true := by simp; omega
        have hw1 : IntKind.i64.wrap ((j : Int) + 1) = (j : Int) + 1 := by have := HN.out; rw [IntKind.wrap_i64]; omega
        go_wp2_with (at_builtin; refine wpList_append_own _ rfl (.tmp 81) (.tmp 86) 32 rfl w.heap.size 2 i2 (.int .i64 0) 1 8 Try.underlying32 HI.out.1 HI.out.2.1 HI.out.2.2.1 HI.out.2.2.2 rfl (by decide) _ _ _ rfl (HOW.out.alloc _) ⟨wr.heap.size, 0, none⟩ 1 1 [.int .i64 (wrap64 (V + j))] rfl rfl (new_cell _ _ _) (one_oneCell rfl) (by have := HLY.out; have := HN.out; have := HL.out; unfold maxLen; omega) (by have := HLY.out; have := HN.out; have := HL.out; omega) (by have := HB.out.size; simp; omega) ?_)
        intro v2 w2 hown2 hgrow2 hnil2
        have HW2 := Lib.hid (do_push HB.out HBS.out HGB.out HOW.out hgrow2 hown2 (by simp) hnil2)
        clear hown2 hgrow2 hnil2
        go_wp2_with fail
        go_roundg (gk - 1)
        case measure => omega
        case rel =>
          refine ⟨j + 1, by omega, rfl, ?_⟩
          rw [up_succ, ← List.append_assoc, HYS.out]
          exact HW2.out
      · have h1 : decide ((j : Int) < (N : Int)) = false := by simp; omega
        have hj : j = N := by omega
        have HE := Lib.hid (do_done (k := 4) (xs := xs) (I := N) (E := E) (V := V) HD.out (by rw [← HYS.out, hj]; unfold stepOf; rw [if_neg (by decide), if_neg (by decide), if_neg (by decide), if_neg (by decide), if_pos rfl, Int.toNat_natCast]))
        clear HD hj
        go_wp2_with fail
        refine bodyPost_ret (results_tmp2 rfl _ _ _) rfl ?_
        exact HE.out

set_option maxRecDepth 100000 in
set_option maxHeartbeats 1600000 in
theorem do_w5 (u : Value) (xs : List Int) (F I E V : Int) (w : World) (hs : SlN w u (xs.map (Value.int .i64))) (hl : xs.length ≤ 2147483647) (hI : 0 ≤ I ∧ I ≤ 100000) :
    Calls Try.prog 32 #[u, .agg #[.int .u8 5, .int .i64 F, .int .i64 I, .int .i64 E, .int .i64 V]] w (DoPost w xs 5 I E V) := by
  obtain ⟨i2, hi, hz0, hz1, hz2⟩ := info_parts info2
  have HI := Lib.hid (And.intro hi (And.intro hz0 (And.intro hz1 hz2)))
  clear hi hz0 hz1 hz2
  have hown0 := made0 w #[.int .u8 5, .int .i64 F, .int .i64 I, .int .i64 E, .int .i64 V]
  have HO := Lib.hid hown0
  have HS := Lib.hid hs
  obtain ⟨a, cap, rfl, hnil, hcells⟩ := hs
  have HC := Lib.hid hcells
  have HLN : Hid (xs.length = (xs.map (Value.int .i64)).length) := by show _ = _; simp
  clear hown0 hcells
  rw [← HLN.out]
  go_enter Try.func32, Try.ntmps32
  go_upto_region 1 with (fail)
  go_cut [6] from 10 to 12 (fun v6 wc => DoAt w #[.int .u8 5, .int .i64 F, .int .i64 I, .int .i64 E, .int .i64 V] xs v6 wc)
  case first =>
    cases a with
    | none =>
      have hc0 := hnil rfl
      subst hc0
      have hx0 : xs = [] := by
        cases xs with
        | nil => rfl
        | cons x r => obtain ⟨g, o, h, _⟩ := HC.out 0 _ rfl; cases h
      subst hx0
      go_wp2_with (at_builtin; refine wpList_append_own_none rfl (.tmp 10) (.tmp 11) 32 rfl w.heap.size 2 i2 1 Try.underlying32 HI.out.1 _ 0 [] rfl HO.out rfl ?_)
      go_meet
      case rel => exact do_at0 w _
    | some ad =>
      go_wp2_with (at_builtin; refine wpList_append_own _ rfl (.tmp 10) (.tmp 11) 32 rfl w.heap.size 2 i2 (.int .i64 0) 1 8 Try.underlying32 HI.out.1 HI.out.2.1 HI.out.2.2.1 HI.out.2.2.2 rfl (by decide) _ _ _ rfl HO.out ad xs.length cap (xs.map (Value.int .i64)) rfl (by simp) (do_news HS.out HLN.out) (ints_one xs) (by unfold maxLen; omega) (by omega) (by simp; omega) ?_)
      intro v1 w1 hown1 hgrow1 hnil1
      have HW1 := Lib.hid (do_at1 hown1 hgrow1 hnil1)
      clear hown1 hgrow1 hnil1
      go_wp2_with fail
      go_meet
      case rel => exact HW1.out
  case rest =>
    obtain ⟨g, gc, rfl, ho, hb, hbs, hgb⟩ := hcut
    have HOW := Lib.hid ho
    have HB := Lib.hid hb
    have HBS := Lib.hid hbs
    have hs0 := cell_at (j := 0) hbs rfl
    have hs2 := cell_at (j := 2) hbs rfl
    have hs3 := cell_at (j := 3) hbs rfl
    have hs4 := cell_at (j := 4) hbs rfl
    clear ho hb hbs hnil HO HC
    obtain ⟨N, rfl⟩ : ∃ N : Nat, I = N := ⟨I.toNat, by omega⟩
    have hN : N ≤ 100000 := by omega
    have HN := Lib.hid hN
    have HL := Lib.hid hl
    have hw5 : IntKind.i64.wrap ((N : Int) + xs.length) = (N : Int) + xs.length := by rw [IntKind.wrap_i64]; omega
    have hw6 : IntKind.i64.wrap ((N : Int) - 1) = (N : Int) - 1 := by rw [IntKind.wrap_i64]; omega
    clear hI hN hl HS HLN hgb
    go_wp2_with (at_make; refine wpList_make_own _ rfl _ _ 32 rfl wc.heap.size 2 i2 (.int .i64 0) 1 Try.underlying32 HI.out.1 HI.out.2.1 HI.out.2.2.1 .i64 .i64 _ (N + xs.length) rfl rfl (by omega) (by rw [HI.out.2.2.2]; have := HL.out; have := HN.out; omega) (by have := HL.out; have := HN.out; unfold maxLen; omega) (Nat.le_refl _) ?_)
    intro w0 hown0 hgrow0
    have HF0 : Hid (FrL wc [] (.slice (some ⟨wc.heap.size, 0, none⟩) 0 (N + xs.length)) w0) := ⟨wc.heap.size, _, rfl, hown0, Below.grown (Below.refl _ wc) hgrow0 (Nat.le_refl _) (fun k hk => by cases hk)⟩
    have hs2' := (HF0.out.choose_spec.choose_spec.2.2.cell (p := ⟨w.heap.size, 2, none⟩) (lt_of_block HBS.out)).trans hs2
    clear hown0 hgrow0
    go_wp2_with fail
    go_loopg [8, 9] N (fun k v8 v9 wr => ∃ m : Nat, m + k = N ∧ v9 = .int .i64 ((N : Int) - 1 - m) ∧ FrL wc ((up N V).reverse.take m) v8 wr)
    case atStart => exact ⟨0, by omega, by simp, HF0.out⟩
    case round =>
      clear HF0 hs0 hs2 hs3 hs2' hw5 hw6
      obtain ⟨m, hmk, rfl, gr, gcr, rfl, ho, hb⟩ := hrel
      have HOR := Lib.hid ho
      have HBR := Lib.hid hb
      have hs4r := (hb.cell (p := ⟨w.heap.size, 4, none⟩) (lt_of_block HBS.out)).trans hs4
      have HLY : Hid (((up N V).reverse.take m).length = m) := by show _ = _; simp [up]; omega
      have HS4 := Lib.hid hs4
      clear ho hb hs4
      generalize hys : (up N V).reverse.take m = ys at HOR HLY ⊢
      have HYS := Lib.hid hys
      clear hys
      by_cases hlt : m < N
      · have h1 : decide (0 ≤ (N : Int) - 1 - m) = true := by simp; omega
        have hw1 : IntKind.i64.wrap ((N : Int) - 1 - m - 1) = (N : Int) - 1 - m - 1 := by have := HN.out; rw [IntKind.wrap_i64]; omega
        go_wp2_with (at_builtin; refine wpList_append_own _ rfl (.tmp 104) (.tmp 109) 32 rfl wc.heap.size 2 i2 (.int .i64 0) 1 8 Try.underlying32 HI.out.1 HI.out.2.1 HI.out.2.2.1 HI.out.2.2.2 rfl (by decide) _ _ _ rfl (HOR.out.alloc _) ⟨wr.heap.size, 0, none⟩ 1 1 [.int .i64 (wrap64 (V + ((N : Int) - 1 - m)))] rfl rfl (new_cell _ _ _) (one_oneCell rfl) (by have := HLY.out; have := HN.out; have := HL.out; unfold maxLen; omega) (by have := HLY.out; have := HN.out; have := HL.out; omega) (by have := HBR.out.size; simp; omega) ?_)
        intro v2 w2 hown2 hgrow2 hnil2
        have HW2 := Lib.hid (fr_push HBR.out HOR.out hgrow2 hown2 (by simp) hnil2)
        clear hown2 hgrow2 hnil2
        go_wp2_with fail
        go_roundg (gk - 1)
        case measure => omega
        case rel =>
          refine ⟨m + 1, by omega, ?_, ?_⟩
          · congr 1; omega
          · rw [up_rev V hlt, HYS.out]
            exact HW2.out
      · have h1 : decide (0 ≤ (N : Int) - 1 - m) = false := by simp; omega
        have hm : m = N := by omega
        have HSt : Hid (stepOf xs 5 N E V = some (ys ++ xs)) := by
          have : (up N V).reverse.take m = (up N V).reverse := List.take_of_length_le (by simp [up]; omega)
          show _ = _
          rw [← HYS.out, this]
          unfold stepOf
          rw [if_neg (by decide), if_neg (by decide), if_neg (by decide), if_neg (by decide), if_neg (by decide), Int.toNat_natCast]
        clear hm
        go_wp2_with (at_builtin; refine wpList_append_own _ rfl (.tmp 111) (.tmp 112) 32 rfl wc.heap.size 2 i2 (.int .i64 0) 1 8 Try.underlying32 HI.out.1 HI.out.2.1 HI.out.2.2.1 HI.out.2.2.2 rfl (by decide) _ _ _ rfl HOR.out ⟨g, 0, none⟩ xs.length gc (xs.map (Value.int .i64)) rfl (by simp) (own_newsB HOW.out HBR.out) (ints_one xs) (by have := HLY.out; have := HN.out; have := HL.out; unfold maxLen; omega) (by have := HLY.out; have := HN.out; have := HL.out; omega) (by have := HBR.out.size; omega) ?_)
        intro v2 w2 hown2 hgrow2 hnil2
        have HW2 := Lib.hid (fr_done (E := E) HB.out HBR.out HOR.out hgrow2 hown2 (by simp) hnil2 HSt.out)
        clear hown2 hgrow2 hnil2
        go_wp2_with fail
        refine bodyPost_ret (results_tmp2 rfl _ _ _) rfl ?_
        exact HW2.out

end Go.Proofs.Ytnahipfdnadccaa
