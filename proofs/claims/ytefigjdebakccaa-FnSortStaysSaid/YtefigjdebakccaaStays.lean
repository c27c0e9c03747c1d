/- The walk over the law FnSortStays. -/
import Derived.Test.YtefigjdebakccaaCl27
import Derived.Test.YtefigjdebakccaaCln
namespace Go.Proofs.Ytefigjdebakccaa
open Go.RowKit

theorem right_app (lt : Int → Int → Bool) : ∀ (a : List Stp) (vs : List Es) (b : List Stp), Right vs.length a → Right (vers lt vs a).length b → Right vs.length (a ++ b)
  | [], _, _, _, h => h
  | s :: a, vs, b, ⟨h1, h2, h3, h4, h5⟩, h => by
    refine ⟨h1, h2, h3, h4, ?_⟩
    have e := next_len lt vs s
    rw [← e] at h5 ⊢
    exact right_app lt a _ b h5 h
theorem vers_len (lt : Int → Int → Bool) : ∀ (l : List Stp) (vs : List Es), vs.length ≤ (vers lt vs l).length ∧ (vers lt vs l).length ≤ vs.length + l.length
  | [], vs => ⟨Nat.le_refl _, Nat.le_refl _⟩
  | s :: l, vs => by
    have e := next_len lt vs s
    obtain ⟨h1, h2⟩ := vers_len lt l (next lt vs s)
    refine ⟨Nat.le_trans ?_ h1, Nat.le_trans h2 ?_⟩
    · rw [e]; split <;> omega
    · rw [e, List.length_cons]; split <;> omega
theorem right_all {v : Nat} : ∀ l : List Stp, (∀ s ∈ l, s.on < v ∧ 2 ≤ s.op ∧ s.op ≤ 6 ∧ s.moves = []) → Right v l
  | [], _ => trivial
  | s :: l, h => by
    obtain ⟨h1, h2, h3, h4⟩ := h s (.head _)
    refine ⟨h1, h3, by rw [h4]; simp, by rw [h4]; simp, ?_⟩
    rw [if_neg (by omega)]
    exact right_all l fun x hx => h x (.tail _ hx)
theorem run_all (lt : Int → Int → Bool) : ∀ (l : List Stp) (vs : List Es), (∀ s ∈ l, 2 ≤ s.op) → run lt vs l = l.map fun s => tell lt (verOf vs s) s
  | [], _, _ => rfl
  | s :: l, vs, h => by
    have h1 := h s (.head _)
    have e : next lt vs s = vs := by
      unfold next
      rw [if_neg (by omega), if_neg (by omega)]
    show tell lt (verOf vs s) s :: run lt (next lt vs s) l = _
    rw [e, run_all lt l vs fun x hx => h x (.tail _ hx)]
    rfl
/-- every version asked for its pairs -/
def asksTo (n : Nat) : List Stp := (List.range n).map fun i => ⟨4, i, 0, 0, []⟩
theorem asksTo_len (n : Nat) : (asksTo n).length = n := by unfold asksTo; rw [List.length_map, List.length_range]
theorem asksTo_succ (n : Nat) : asksTo (n + 1) = asksTo n ++ [⟨4, n, 0, 0, []⟩] := by unfold asksTo; rw [List.range_succ, List.map_append]; rfl
theorem asksTo_mem {n : Nat} {s : Stp} (h : s ∈ asksTo n) : s.on < n ∧ s.op = 4 ∧ s.moves = [] := by
  unfold asksTo at h
  obtain ⟨i, hi, rfl⟩ := List.mem_map.1 h
  exact ⟨List.mem_range.1 hi, rfl, rfl⟩
theorem asksTo_at {n j : Nat} (h : j < n) : (asksTo n)[j]? = some ⟨4, j, 0, 0, []⟩ := by
  unfold asksTo
  rw [List.getElem?_map, List.getElem?_range h]
  rfl
theorem stay_right (lt : Int → Int → Bool) {L : List Stp} (h : Right 1 L) : Right 1 (L ++ asksTo (vers lt [[]] L).length) :=
  right_app lt L [[]] _ h (right_all _ fun s hs => ⟨(asksTo_mem hs).1, by rw [(asksTo_mem hs).2.1]; decide, by rw [(asksTo_mem hs).2.1]; decide, (asksTo_mem hs).2.2⟩)
theorem stay_at (lt : Int → Int → Bool) (L : List Stp) {j : Nat} {es : Es} (h : (vers lt [[]] L)[j]? = some es) : (run lt [[]] (L ++ asksTo (vers lt [[]] L).length))[L.length + j]? = some ⟨0, false, es.map (·.1), es.map (·.2), []⟩ := by
  have hj := (List.getElem?_eq_some_iff.1 h).1
  rw [run_app, List.getElem?_append_right (by rw [run_len]; omega), run_len, Nat.add_sub_cancel_left, run_all lt _ _ fun s hs => by rw [(asksTo_mem hs).2.1]; decide, List.getElem?_map, asksTo_at hj]
  have hv : verOf (vers lt [[]] L) ⟨4, j, 0, 0, []⟩ = es := by
    show (vers lt [[]] L).getD j [] = es
    rw [List.getD_eq_getElem?_getD, h]
    rfl
  simp only [Option.map_some, hv]
  rfl
theorem own_newsS {w : World} {B n c : Nat} {e : TypeId} {ad : Addr} {s : Nat} {cs : List Value} (h : w.ownsRow B e s (.slice (some ad) n c) n cs) : ∀ j u, cs[j]? = some u → w.cell? (ad.add j) = some u := fun j u hu => by
  obtain ⟨g, c1, e1, q1⟩ := own_read h hu
  simp only [Value.slice.injEq, Option.some.injEq] at e1
  rw [e1.1, addr_add, Nat.zero_add]
  exact q1

set_option maxRecDepth 100000 in
set_option maxHeartbeats 3200000 in
theorem lstays_w (o : Nat) (sv : Value) (l : List RSt) (w : World) (hs : RStpsV w sv l) : Calls Try.prog 7 #[.int .u8 (o : Int), sv] w fun e w' => e = .returned (.bool true) ∧ Below w.heap.size w w' := by
  obtain ⟨i27, hi, hz0, hz1, hz2⟩ := info_parts info27
  have HI := Lib.hid (And.intro hi (And.intro hz0 (And.intro hz1 hz2)))
  clear hi hz0 hz1 hz2
  have HS := Lib.hid hs
  have HF := Lib.hid (fits7_w sv l w hs)
  obtain ⟨sa, scap, rfl, hn0, -⟩ := hs
  have HN0 := Lib.hid hn0
  obtain ⟨n, hn⟩ : ∃ n, n = l.length := ⟨_, rfl⟩
  rw [← hn] at HF HS ⊢
  have HN := Lib.hid hn
  clear hn hn0
  go_enter Try.func7, Try.ntmps7
  go_wp2_with fail
  refine HF.out.mono ?_
  rintro e w1 ⟨b, rfl, hb, hb1⟩
  have HB1 := Lib.hid hb1
  cases b with
  | false =>
    clear hb hb1
    go_wp2_with fail
    go_ret
    exact ⟨rfl, HB1.out⟩
  | true =>
    have HSR := Lib.hid (sright_w o _ l w1 (HS.out.below HB1.out) (by rw [← HN.out]; exact hb rfl))
    clear hb hb1 HF
    go_wp2_with fail
    refine HSR.out.mono ?_
    rintro e w2 ⟨b, rfl, hb, hb2⟩
    have HB2 := Lib.hid (HB1.out.trans (hb2.mono HB1.out.size))
    clear hb2 HSR
    cases b with
    | false =>
      clear hb
      go_wp2_with fail
      refine (awake_w w2).mono ?_
      rintro e wa ⟨rfl, hba⟩
      have HBA := Lib.hid (HB2.out.trans (hba.mono HB2.out.size))
      clear hba
      go_wp2_with fail
      refine bodyPost_ret (results_tmp rfl _ _ _) rfl ?_
      exact ⟨rfl, HBA.out⟩
    | true =>
      by_cases c1 : 30 < n
      · have d1 : decide ((30 : Int) < (n : Int)) = true := by simp; omega
        clear hb
        go_wp2_with fail
        refine (awake_w w2).mono ?_
        rintro e wa ⟨rfl, hba⟩
        have HBA := Lib.hid (HB2.out.trans (hba.mono HB2.out.size))
        clear hba
        go_wp2_with fail
        refine bodyPost_ret (results_tmp rfl _ _ _) rfl ?_
        exact ⟨rfl, HBA.out⟩
      have d1 : decide ((30 : Int) < (n : Int)) = false := by simp; omega
      have hn30 : n ≤ 30 := by omega
      have HL := Lib.hid hn30
      obtain ⟨ho, hl, hr⟩ := hb rfl
      have HR := Lib.hid hr
      obtain ⟨L, hLL⟩ : ∃ L, L = l.map RSt.to := ⟨_, rfl⟩
      have hrL : Right 1 L := by rw [hLL]; exact hr.right
      have hlen : L.length = n := by rw [hLL, List.length_map, HN.out]
      have hmv : ∀ s ∈ L, s.moves.length ≤ 40 := by rw [hLL]; exact hr.moves
      have HST : Hid (∀ W, Below w.heap.size w W → StpsV W (.slice sa n scap) L) := fun W hW => by rw [hLL]; exact (HS.out.below hW).stps HR.out
      have HRL := Lib.hid hrL
      have HLEN := Lib.hid hlen
      have HMV := Lib.hid hmv
      clear hb ho hl hr hLL hrL hlen hmv c1 hn30
      go_wp2_with fail
      go_loopg [30] n (fun k v30 wr => ∃ j : Nat, j + k = n ∧ v30 = .int .i64 (j : Int) ∧ Below w.heap.size w wr)
      case atStart => exact ⟨0, by omega, rfl, HB2.out⟩
      case round =>
        obtain ⟨j, hjk, rfl, hb⟩ := hrel
        have HB := Lib.hid hb
        clear hb
        by_cases hlt : j < n
        · have h1 : decide ((j : Int) < (n : Int)) = true := by simp; omega
          have hw1 : IntKind.i64.wrap ((j : Int) + 1) = (j : Int) + 1 := by have := HL.out; rw [IntKind.wrap_i64]; omega
          have hj0 : (0 : Int) ≤ (j : Int) := by omega
          have hj1 : (j : Int) < (n : Int) := by omega
          obtain ⟨s, hs⟩ : ∃ s, L[j]? = some s := ⟨_, List.getElem?_eq_getElem (by rw [HLEN.out]; exact hlt)⟩
          obtain ⟨a, cap, hav, hread⟩ := HST.out wr HB.out
          simp only [Value.slice.injEq] at hav
          obtain ⟨g, q, mv, ha, c0, c1, c2, c3, c4, hmv⟩ := hread j s hs
          have hsa : sa = some ⟨g, q, none⟩ := hav.1.trans ha
          subst hsa
          obtain ⟨ma, mcap, rfl, -⟩ := hmv
          obtain ⟨op, on, key, val, moves⟩ := s
          obtain ⟨ml, hmll⟩ : ∃ ml, ml = moves.length := ⟨_, rfl⟩
          simp only [← hmll] at c4
          simp only at c0 c1 c2 c3
          clear hread hav ha hs hmll
          go_upto_region 9 with (fail)
          have hbx : Below wr.heap.size wr (wr.alloc (.cells #[.int .u8 (op : Int), .int .i64 (on : Int), .int .i64 key, .int .i64 val, .slice ma ml mcap] 27)) := (Below.refl _ _).alloc (Nat.le_refl _) _
          have HBX := Lib.hid (HB.out.trans (hbx.mono HB.out.size))
          have x0 := cell_at (j := 0) (heap_alloc_last wr (.cells #[.int .u8 (op : Int), .int .i64 (on : Int), .int .i64 key, .int .i64 val, .slice ma ml mcap] 27)) rfl
          clear hbx c0 c1 c2 c3 c4 HB
          generalize wr.alloc (.cells #[.int .u8 (op : Int), .int .i64 (on : Int), .int .i64 key, .int .i64 val, .slice ma ml mcap] 27) = X at HBX x0 ⊢
          generalize wr.heap.size = b7 at x0 ⊢
          clear wr
          by_cases k : op ≤ 1
          · have hop : op = 0 ∨ op = 1 := by omega
            clear k
            rcases hop with rfl | rfl
            · go_wp2_with fail
              go_roundg (gk - 1)
              case measure => omega
              case rel => exact ⟨j + 1, by omega, rfl, HBX.out⟩
            · go_wp2_with fail
              go_roundg (gk - 1)
              case measure => omega
              case rel => exact ⟨j + 1, by omega, rfl, HBX.out⟩
          · have e0 : ((op : Int) != 0) = true := by simp; omega
            have e1 : ((op : Int) != 1) = true := by simp; omega
            clear k
            go_wp2_with fail
            refine (awake_w X).mono ?_
            rintro e wa ⟨rfl, hba⟩
            have HBA := Lib.hid (HBX.out.trans (hba.mono HBX.out.size))
            clear hba
            go_wp2_with fail
            refine bodyPost_ret (results_tmp rfl _ _ _) rfl ?_
            exact ⟨rfl, HBA.out⟩
        · have h1 : decide ((j : Int) < (n : Int)) = false := by simp; omega
          obtain rfl : n = j := by omega
          have HRUN := Lib.hid (srun_w o [] List.Pairwise.nil (Nat.zero_le _) _ L _ wr (pt_nil wr o) (HST.out _ HB.out) HRL.out (by have := HLEN.out; have := HL.out; omega))
          clear hlt hjk HB2
          obtain ⟨Z, rfl⟩ : ∃ Z : World, Z = wr := ⟨_, rfl⟩
          go_wp2_with fail
          refine HRUN.out.mono ?_
          rintro e w3 ⟨tv, vv, rfl, -, hvv, hb3⟩
          have HB3 := Lib.hid (HB.out.trans (hb3.mono HB.out.size))
          obtain ⟨V, hV⟩ : ∃ V, V = vers (ltO o) [[]] L := ⟨_, rfl⟩
          rw [← hV] at hvv
          obtain ⟨nv, hnv⟩ : ∃ nv, nv = V.length := ⟨_, rfl⟩
          have hvl := vers_len (ltO o) L [[]]
          rw [← hV, ← hnv, HLEN.out] at hvl
          have HVL : Hid (1 ≤ nv ∧ nv ≤ 1 + n) := hvl
          obtain ⟨g5, cap5, rfl⟩ : ∃ g c, vv = .slice (some ⟨g, 0, none⟩) nv c := by
            obtain ⟨ps, -, h, -⟩ := hvv
            rw [hnv]
            exact own_shape h (by have : 1 ≤ nv := hvl.1; omega)
          have HVV := Lib.hid hvv
          have HV := Lib.hid hV
          have HNV := Lib.hid hnv
          clear hV hnv hvl hb3 hvv HRUN HB
          go_wp2_with fail
          go_loopg [5, 10, 53] nv (fun k v5 v10 v53 wr => ∃ j : Nat, j + k = nv ∧ v53 = .int .i64 (j : Int) ∧ wr.ownsRow w3.heap.size 27 5 v5 j (stcells (asksTo j) (List.replicate j (.slice none 0 0))) ∧ Below w3.heap.size w3 wr)
          case atStart => exact ⟨0, by omega, rfl, World.ownsRow_nil _ _ _ _, Below.refl _ _⟩
          case round =>
            obtain ⟨j, hjk, rfl, ho, hb⟩ := hrel
            have HO := Lib.hid ho
            have HB := Lib.hid hb
            clear ho hb
            by_cases hlt : j < nv
            · have h1 : decide ((j : Int) < (nv : Int)) = true := by simp; omega
              have hw1 : IntKind.i64.wrap ((j : Int) + 1) = (j : Int) + 1 := by have := HL.out; have := HVL.out; rw [IntKind.wrap_i64]; omega
              have HJ : Hid (j < 100000) := by have := HL.out; have := HVL.out; show j < 100000; omega
              have HWS : Hid (w3.heap.size ≤ wr.heap.size) := HB.out.size
              go_wp2_with (at_builtin; refine wpList_append_own _ rfl (.tmp 56) (.tmp 59) 28 rfl w3.heap.size 27 i27 (.agg #[.int .u8 0, .int .i64 0, .int .i64 0, .int .i64 0, .slice none 0 0]) 5 56 Try.underlying28 HI.out.1 HI.out.2.1 HI.out.2.2.1 HI.out.2.2.2 rfl (by decide) _ _ _ rfl (HO.out.alloc _) ⟨wr.heap.size, 0, none⟩ 1 1 [.int .u8 4, .int .i64 (j : Int), .int .i64 0, .int .i64 0, .slice none 0 0] rfl rfl (five_new _ _ _ _ _ _ _) (five_one rfl rfl rfl rfl rfl) (by have := HJ.out; unfold maxLen; omega) (by have := HJ.out; omega) (by have := HWS.out; rw [size_alloc]; omega) ?_)
              intro v4 w4 hown4 hgrow4 _
              have hb2 : Below w3.heap.size wr (wr.alloc (.cells #[.int .u8 4, .int .i64 (j : Int), .int .i64 0, .int .i64 0, .slice none 0 0] 27)) := (Below.refl _ wr).alloc HWS.out _
              have HB4 := Lib.hid (HB.out.trans (below_grown hb2 HO.out (Nat.le_refl _) HWS.out hgrow4))
              have HO4 : Hid (w4.ownsRow w3.heap.size 27 5 v4 (j + 1) (stcells (asksTo (j + 1)) (List.replicate (j + 1) (.slice none 0 0)))) := by
                show w4.ownsRow w3.heap.size 27 5 v4 (j + 1) (stcells (asksTo (j + 1)) (List.replicate (j + 1) (.slice none 0 0)))
                rw [asksTo_succ, List.replicate_succ', stcells_snoc _ _ (by rw [asksTo_len, List.length_replicate])]
                exact hown4
              clear hown4 hgrow4 hb2
              go_wp2_with fail
              go_roundg (gk - 1)
              case measure => omega
              case rel => exact ⟨j + 1, by omega, rfl, HO4.out, HB4.out⟩
            · have h1 : decide ((j : Int) < (nv : Int)) = false := by simp; omega
              obtain rfl : nv = j := by omega
              obtain ⟨g6, cap6, rfl⟩ := own_shape HO.out (by have := HVL.out; omega)
              clear hlt hjk
              have HBW : Hid (Below w.heap.size w wr) := HB3.out.trans (HB.out.mono HB3.out.size)
              have HCL := Lib.hid (clone27_w (.slice sa n scap) L (by have := HLEN.out; have := HL.out; omega) wr (HST.out _ HBW.out) (fun m c h => by
                simp only [Value.slice.injEq] at h
                rw [← h.2.2]
                exact HN0.out h.1))
              obtain ⟨Y, rfl⟩ : ∃ Z : World, Z = wr := ⟨_, rfl⟩
              go_wp2_with fail
              refine HCL.out.mono ?_
              rintro e w4 ⟨u, rfl, rs, hown, hrl, hmv, hb4⟩
              have HB4 := Lib.hid hb4
              rw [HLEN.out] at hown
              have HC := Lib.hid hown
              have HRL2 := Lib.hid hrl
              have HMO := Lib.hid hmv
              have HALEN : Hid ((stcells (asksTo nv) (List.replicate nv (.slice none 0 0))).length = nv * 5) := by
                show _ = _
                rw [stcells_len (by rw [List.length_replicate, asksTo_len]), asksTo_len]
              have HAN := Lib.hid (own_newsS (own_below HO.out hb4))
              have HAO : Hid (∀ u ∈ stcells (asksTo nv) (List.replicate nv (.slice none 0 0)), u.oneCell' = true) := stcells_one fun r hr => by rw [(List.mem_replicate.1 hr).2]; rfl
              have HYS : Hid (Y.heap.size ≤ w4.heap.size) := hb4.size
              obtain ⟨ua, uc, rfl⟩ := own_len hown
              clear hb4 hown hrl hmv HCL
              go_wp2_with (at_builtin; refine wpList_append_own _ rfl (.tmp 64) (.tmp 65) 28 rfl Y.heap.size 27 i27 (.agg #[.int .u8 0, .int .i64 0, .int .i64 0, .int .i64 0, .slice none 0 0]) 5 56 Try.underlying28 HI.out.1 HI.out.2.1 HI.out.2.2.1 HI.out.2.2.2 rfl (by decide) _ _ _ rfl HC.out ⟨g6, 0, none⟩ nv cap6 (stcells (asksTo nv) (List.replicate nv (.slice none 0 0))) rfl HALEN.out HAN.out HAO.out (by have := HL.out; have := HVL.out; unfold maxLen; omega) (by have := HL.out; have := HVL.out; omega) (by have := HYS.out; omega) ?_)
              intro v6 w6 hown6 hgrow6 _
              have hB6 : Below Y.heap.size w4 w6 := below_grown (Below.refl _ w4) HC.out (Nat.le_refl _) HYS.out hgrow6
              have HBY6 : Hid (Below Y.heap.size Y w6) := HB4.out.trans hB6
              have HBW6 : Hid (Below w.heap.size w w6) := HBW.out.trans (HBY6.out.mono HBW.out.size)
              obtain ⟨N, hN⟩ : ∃ N, N = n + nv := ⟨_, rfl⟩
              obtain ⟨M, hM⟩ : ∃ M, M = L ++ asksTo nv := ⟨_, rfl⟩
              have hMl : M.length = N := by rw [hM, hN, List.length_append, HLEN.out, asksTo_len]
              have hst : StpsV w6 v6 M := by
                have ho := hown6
                rw [← stcells_app _ _ HRL2.out, ← hM, ← hN] at ho
                refine stps_read (by rw [hMl, hN, List.length_append, HRL2.out, HLEN.out, List.length_replicate]) hMl.symm ho fun i s r h1 h2 => ?_
                rw [hM] at h1
                rcases Nat.lt_or_ge i L.length with hi | hi
                · rw [List.getElem?_append_left hi] at h1
                  rw [List.getElem?_append_left (by rw [HRL2.out]; exact hi)] at h2
                  exact (HMO.out i s r h1 h2).below HBY6.out
                · rw [List.getElem?_append_right hi] at h1
                  rw [List.getElem?_append_right (by rw [HRL2.out]; exact hi)] at h2
                  rw [(asksTo_mem (List.mem_of_getElem? h1)).2.2, (List.mem_replicate.1 (List.mem_of_getElem? h2)).2]
                  exact movesV_nil _
              have hright : Right 1 M := by
                rw [hM, HNV.out, HV.out]
                exact stay_right _ HRL.out
              have hmm : ∀ s ∈ M, s.moves.length ≤ 100000 := by
                intro s hs
                rw [hM] at hs
                rcases List.mem_append.1 hs with hs | hs
                · have := HMV.out s hs
                  omega
                · rw [(asksTo_mem hs).2.2]
                  simp
              have hN5 : N ≤ 100 := by have := HL.out; have := HVL.out; omega
              have HTS := Lib.hid (tosort_w v6 M w6 hst (by rw [hMl]; omega) hmm)
              have HRI := Lib.hid hright
              have HML := Lib.hid hMl
              have HM := Lib.hid hM
              have HNN := Lib.hid hN
              have HN5 := Lib.hid hN5
              obtain ⟨a6, c6, rfl⟩ := own_len hown6
              clear hst hright hmm hMl hM hown6 hgrow6 hB6 HAN HAO HALEN HC HMO HRL2
              rw [← hN] at HTS ⊢
              clear hN hN5
              go_wp2_with fail
              refine HTS.out.mono ?_
              rintro e w7 ⟨v7, rfl, hv7, hb7⟩
              have HRM := Lib.hid (runMaps_w o M v7 w7 hv7.stps HRI.out (by have := HML.out; have := HN5.out; omega))
              have HB7 := Lib.hid (HBY6.out.trans (hb7.mono HBY6.out.size))
              obtain ⟨v7a, v7c, rfl⟩ : ∃ a c, v7 = .slice a M.length c := by
                obtain ⟨rs, -, h, -⟩ := hv7
                exact own_len h
              rw [HML.out] at HRM ⊢
              clear hv7 hb7 HTS
              go_wp2_with fail
              refine HRM.out.mono ?_
              rintro e w8 ⟨v8, rfl, hv8, hb8⟩
              have HB8 := Lib.hid (HB7.out.trans (hb8.mono HB7.out.size))
              have HBW8 : Hid (Below w.heap.size w w8) := HBW.out.trans (HB8.out.mono HBW.out.size)
              have HV8 := Lib.hid hv8
              obtain ⟨g8, c8, rfl⟩ : ∃ g c, v8 = .slice (some ⟨g, 0, none⟩) N c := by
                obtain ⟨rs, -, h, -⟩ := hv8
                rw [run_len, HML.out] at h
                exact own_shape h (by have := HNN.out; have := HVL.out; omega)
              have HVV8 : Hid (VersP w8 Z.heap.size o (1000 + L.length) (.slice (some ⟨g5, 0, none⟩) nv cap5) V) := HVV.out.below (HB.out.trans (HB8.out.mono HB.out.size))
              have hwN : IntKind.i64.wrap ((n : Int) + (nv : Int)) = (N : Int) := by have := HNN.out; have := HN5.out; rw [IntKind.wrap_i64]; omega
              have dne : ((N : Int) != (N : Int)) = false := by simp
              clear hv8 hb8 HRM HB7 HBY6 HBW6
              go_wp2_with fail
              go_loopg [12, 79] nv (fun k v12 v79 wr => ∃ j : Nat, j + k = nv ∧ v79 = .int .i64 (j : Int) ∧ Below w8.heap.size w8 wr)
              case atStart => exact ⟨0, by omega, rfl, Below.refl _ _⟩
              case round =>
                obtain ⟨j, hjk, rfl, hb⟩ := hrel
                have HB := Lib.hid hb
                clear hb
                by_cases hlt : j < nv
                · have h1 : decide ((j : Int) < (nv : Int)) = true := by simp; omega
                  have hw1 : IntKind.i64.wrap ((j : Int) + 1) = (j : Int) + 1 := by have := HL.out; have := HVL.out; rw [IntKind.wrap_i64]; omega
                  have hj0 : (0 : Int) ≤ (j : Int) := by omega
                  have hj1 : (j : Int) < (nv : Int) := by omega
                  obtain ⟨es, hes⟩ : ∃ es, V[j]? = some es := ⟨_, List.getElem?_eq_getElem (by rw [← HNV.out]; exact hlt)⟩
                  obtain ⟨ps, hpl, hov, hvm⟩ := HVV8.out.below HB.out
                  obtain ⟨⟨p1, p2⟩, hp⟩ : ∃ p, ps[j]? = some p := ⟨_, List.getElem?_eq_getElem (by rw [hpl, ← HNV.out]; exact hlt)⟩
                  rw [← HNV.out] at hov
                  obtain ⟨hpt, -, hel⟩ := hvm j _ es hp hes
                  obtain ⟨q0, q1, q2⟩ := pcells_at o hp
                  have c0 := own_cell5 hov q0
                  have c1 := own_cell5 hov q1
                  have c2 := own_cell5 hov q2
                  obtain ⟨i, hi⟩ : ∃ i, i = n + j := ⟨_, rfl⟩
                  have hin : i < N := by have := HNN.out; omega
                  have hwi : IntKind.i64.wrap ((n : Int) + (j : Int)) = (i : Int) := by have := HN5.out; rw [IntKind.wrap_i64]; omega
                  have hi0 : (0 : Int) ≤ (i : Int) := by omega
                  have hi1 : (i : Int) < (N : Int) := by omega
                  have hti : (run (ltO o) [[]] M)[i]? = some ⟨0, false, es.map (·.1), es.map (·.2), []⟩ := by
                    rw [HM.out, HNV.out, HV.out, hi, ← HLEN.out]
                    exact stay_at (ltO o) L (by rw [← HV.out]; exact hes)
                  obtain ⟨rs, hrl, hot, htm⟩ := HV8.out.below HB.out
                  obtain ⟨⟨r1, r2, r3⟩, hr⟩ : ∃ r, rs[i]? = some r := ⟨_, List.getElem?_eq_getElem (by rw [hrl, run_len, HML.out]; exact hin)⟩
                  rw [run_len, HML.out] at hot
                  obtain ⟨k1, k2, k3⟩ := htm i _ _ hti hr
                  obtain ⟨s0, s1, s2, s3, s4⟩ := tcells_at hti hr
                  have t0 := own_cell5 hot s0
                  have t1 := own_cell5 hot s1
                  have t2 := own_cell5 hot s2
                  have t3 := own_cell5 hot s3
                  have t4 := own_cell5 hot s4
                  simp only at k1 k2 k3 t0 t1 t2 t3 t4 c1 c2
                  have HEL : Hid (es.length ≤ 100000) := by
                    have := HLEN.out
                    have := HL.out
                    show es.length ≤ 100000
                    omega
                  obtain ⟨el, hell⟩ : ∃ m, m = es.length := ⟨_, rfl⟩
                  obtain ⟨ka, kc, va, vc, hag, i1, i2, -, -⟩ := hpt
                  simp only [Value.agg.injEq, Array.mk.injEq, List.cons.injEq, and_true, true_and] at hag
                  obtain ⟨rfl, rfl⟩ := hag
                  have HI1 := Lib.hid i1
                  have HI2 := Lib.hid i2
                  have HK1 := Lib.hid k1
                  have HK2 := Lib.hid k2
                  obtain ⟨ra1, rc1, rfl, -⟩ := k1.reads
                  obtain ⟨ra2, rc2, rfl, -⟩ := k2.reads
                  obtain ⟨ra3, rc3, rfl⟩ := k3.slice
                  rw [List.length_map, ← hell] at t2 t3 HK1 HK2
                  rw [List.length_nil] at t4
                  rw [← hell] at c1 c2 HI1 HI2
                  have HELL := Lib.hid hell
                  clear hes hpl hov hvm hp hel q0 q1 q2 hin hti hrl hot htm hr k1 k2 k3 s0 s1 s2 s3 s4 i1 i2 hell
                  have HII := Lib.hid hi
                  clear hi
                  go_upto_region 24 with (fail)
                  have hbx : Below wr.heap.size wr (wr.alloc (.cells #[.int .u8 (o : Int), .slice ka el kc, .slice va el vc] 46)) := (Below.refl _ _).alloc (Nat.le_refl _) _
                  replace t0 := bcell hbx t0
                  replace t1 := bcell hbx t1
                  replace t2 := bcell hbx t2
                  replace t3 := bcell hbx t3
                  replace t4 := bcell hbx t4
                  clear hbx c0 c1 c2
                  go_upto_region 25 with (fail)
                  obtain ⟨X, hX⟩ : ∃ X, X = (wr.alloc (.cells #[.int .u8 (o : Int), .slice ka el kc, .slice va el vc] 46)).alloc (.cells #[.int .i64 0, .bool false, .slice ra1 el rc1, .slice ra2 el rc2, .slice ra3 0 rc3] 35) := ⟨_, rfl⟩
                  have hbx : Below wr.heap.size wr X := by rw [hX]; exact ((Below.refl _ _).alloc (Nat.le_refl _) _).alloc (by rw [size_alloc]; omega) _
                  have HX13 : Hid (X.heap[wr.heap.size]? = some (.cells #[.int .u8 (o : Int), .slice ka el kc, .slice va el vc] 46 (0, 0))) := by rw [hX]; exact at_alloc (heap_alloc_last wr _)
                  have HX14 : Hid (X.heap[wr.heap.size + 1]? = some (.cells #[.int .i64 0, .bool false, .slice ra1 el rc1, .slice ra2 el rc2, .slice ra3 0 rc3] 35 (0, 0))) := by
                    have h := heap_alloc_last (wr.alloc (.cells #[.int .u8 (o : Int), .slice ka el kc, .slice va el vc] 46)) (.cells #[.int .i64 0, .bool false, .slice ra1 el rc1, .slice ra2 el rc2, .slice ra3 0 rc3] 35)
                    rw [size_alloc, ← hX] at h
                    exact h
                  rw [← hX]
                  have HBX := Lib.hid (HB.out.trans (hbx.mono HB.out.size))
                  have HJ1 := Lib.hid (HI1.out.kb (T := 0) (by decide) (KB.of_below 0 hbx))
                  have HJ2 := Lib.hid (HI2.out.kb (T := 0) (by decide) (KB.of_below 0 hbx))
                  have HL1 := Lib.hid (HK1.out.kb (T := 0) (by decide) (KB.of_below 0 hbx))
                  have HL2 := Lib.hid (HK2.out.kb (T := 0) (by decide) (KB.of_below 0 hbx))
                  clear hbx t0 t1 t2 t3 t4 hX HI1 HI2 HK1 HK2 HB
                  obtain ⟨b13, hb13⟩ : ∃ b, b = wr.heap.size := ⟨_, rfl⟩
                  obtain ⟨b14, hb14⟩ : ∃ b, b = b13 + 1 := ⟨_, rfl⟩
                  rw [← hb13] at HX13 HX14 ⊢
                  rw [← hb14] at HX14 ⊢
                  clear hb13 hb14
                  have x1 := cell_at (j := 1) HX13.out rfl
                  have x2 := cell_at (j := 2) HX13.out rfl
                  have y2 := cell_at (j := 2) HX14.out rfl
                  have y3 := cell_at (j := 3) HX14.out rfl
                  have HE1 := Lib.hid (same_c HL1.out.rdn.rdi HJ1.out.rdn.rdi (by rw [List.length_map]; have := HEL.out; omega) X (Below.refl _ _))
                  go_wp2_with fail
                  refine HE1.out.mono ?_
                  rintro e w9 ⟨rfl, hb9⟩
                  have HB9 := Lib.hid hb9
                  replace x2 := bcell hb9 x2
                  replace y3 := bcell hb9 y3
                  have HE2 := Lib.hid (same_c HL2.out.rdn.rdi HJ2.out.rdn.rdi (by rw [List.length_map]; have := HEL.out; omega) w9 hb9)
                  clear hb9 HE1 x1 y2
                  go_wp2_with fail
                  refine HE2.out.mono ?_
                  rintro e w10 ⟨rfl, hb10⟩
                  have HB10 : Hid (Below w8.heap.size w8 w10) := HBX.out.trans ((HB9.out.trans (hb10.mono HB9.out.size)).mono HBX.out.size)
                  clear hb10 HE2 x2 y3
                  go_wp2_with fail
                  go_roundg (gk - 1)
                  case measure => omega
                  case rel => exact ⟨j + 1, by omega, rfl, HB10.out⟩
                · have h1 : decide ((j : Int) < (nv : Int)) = false := by simp; omega
                  obtain rfl : nv = j := by omega
                  have HBX : Hid (Below w.heap.size w wr) := HBW8.out.trans (HB.out.mono HBW8.out.size)
                  clear HB hlt
                  go_wp2_with fail
                  refine (awake_w wr).mono ?_
                  rintro e wa ⟨rfl, hba⟩
                  have HBA := Lib.hid (HBX.out.trans (hba.mono HBX.out.size))
                  clear hba
                  go_wp2_with fail
                  refine bodyPost_ret (results_tmp rfl _ _ _) rfl ?_
                  exact ⟨rfl, HBA.out⟩
theorem lstays_c (c : Int) (hc : 0 ≤ c) (sv : Value) (l : List RSt) (w : World) (hs : RStpsV w sv l) : Calls Try.prog 7 #[.int .u8 c, sv] w fun e w' => e = .returned (.bool true) ∧ Below w.heap.size w w' := by
  obtain ⟨o, rfl⟩ : ∃ o : Nat, c = (o : Int) := ⟨c.toNat, by omega⟩
  exact lstays_w o sv l w hs
end Go.Proofs.Ytefigjdebakccaa
