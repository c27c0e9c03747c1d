/- The walk over the law FnSortMixed. -/
import Derived.Test.YtefigjdebakccaaHalves
import Derived.Test.YtefigjdebakccaaOpn
namespace Go.Proofs.Ytefigjdebakccaa
open Go.RowKit

theorem mem_swap {ys : List Int} {a b : Nat} {x y : Int} (ha : ys[a]? = some x) (hb : ys[b]? = some y) (k : Int) : k ∈ (ys.set a y).set b x ↔ k ∈ ys := by
  have hal := (List.getElem?_eq_some_iff.1 ha).1
  have hbl := (List.getElem?_eq_some_iff.1 hb).1
  rw [List.mem_iff_getElem?, List.mem_iff_getElem?]
  constructor
  · rintro ⟨i, hi⟩
    rw [List.getElem?_set, List.getElem?_set, List.length_set] at hi
    split at hi
    · first | exact ⟨a, by rw [ha]; exact hi⟩ | (rw [if_pos (by omega)] at hi; exact ⟨a, by rw [ha]; exact hi⟩)
    · split at hi
      · first | exact ⟨b, by rw [hb]; exact hi⟩ | (rw [if_pos (by omega)] at hi; exact ⟨b, by rw [hb]; exact hi⟩)
      · exact ⟨i, hi⟩
  · rintro ⟨i, hi⟩
    by_cases h1 : i = b
    · subst h1
      rw [hb] at hi
      refine ⟨a, ?_⟩
      rw [List.getElem?_set, List.getElem?_set, List.length_set]
      by_cases h2 : i = a
      · subst h2
        rw [if_pos rfl, if_pos hbl]
        rw [ha] at hb
        rw [hb]
        exact hi
      · rw [if_neg h2, if_pos rfl, if_pos hal]
        exact hi
    · by_cases h2 : i = a
      · subst h2
        rw [ha] at hi
        refine ⟨b, ?_⟩
        rw [List.getElem?_set, if_pos rfl, List.length_set, if_pos hbl]
        exact hi
      · refine ⟨i, ?_⟩
        rw [List.getElem?_set, List.getElem?_set, if_neg (by omega), if_neg (by omega)]
        exact hi
theorem nat_tmod (i n : Nat) (hn : n < 1000000) (hn0 : ¬ n = 0) : ((i : Int)).tmod (n : Int) = ((i % n : Nat) : Int) ∧ IntKind.i64.wrap ((i % n : Nat) : Int) = ((i % n : Nat) : Int) := by
  have h := Nat.mod_lt i (show 0 < n by omega)
  refine ⟨?_, by rw [IntKind.wrap_i64]; omega⟩
  rw [Int.tmod_eq_emod_of_nonneg (by omega)]
  exact (Int.natCast_emod i n).symm

set_option maxRecDepth 100000 in
set_option maxHeartbeats 3200000 in
theorem lmixed_w (o : Nat) (u : Value) (xs : List Int) (tv : Value) (ts : List Int) (htw : ∀ t ∈ ts, 0 ≤ t ∧ t ≤ 65535) (w : World) (hu : RdN w u xs) (ht : RdK .u16 w tv ts) : Calls Try.prog 5 #[.int .u8 (o : Int), u, tv] w fun e w' => e = .returned (.bool true) ∧ Below w.heap.size w w' := by
  have HT := Lib.hid ht
  have HTW := Lib.hid htw
  obtain ⟨ta, tc, rfl, -⟩ := ht
  obtain ⟨m, hm⟩ : ∃ m, m = ts.length := ⟨_, rfl⟩
  rw [← hm] at HT ⊢
  have HM := Lib.hid hm
  clear hm htw
  have HU := Lib.hid hu
  obtain ⟨ua, uc, rfl, -⟩ := hu
  obtain ⟨n, hn⟩ : ∃ n, n = xs.length := ⟨_, rfl⟩
  rw [← hn] at HU ⊢
  have HN := Lib.hid hn
  clear hn
  go_enter Try.func5, Try.ntmps5
  by_cases c1 : 2147483647 < n
  · have d1 : decide ((2147483647 : Int) < (n : Int)) = true := by simp; omega
    go_wp2_with fail
    go_ret
    exact ⟨rfl, Below.refl _ _⟩
  have d1 : decide ((2147483647 : Int) < (n : Int)) = false := by simp; omega
  by_cases c3 : 2147483647 < m
  · have d3 : decide ((2147483647 : Int) < (m : Int)) = true := by simp; omega
    go_wp2_with fail
    go_ret
    exact ⟨rfl, Below.refl _ _⟩
  have d3 : decide ((2147483647 : Int) < (m : Int)) = false := by simp; omega
  by_cases c0 : 3 < o
  · have d0 : decide ((3 : Int) < (o : Int)) = true := by simp; omega
    go_wp2_with fail
    refine (awake_w w).mono ?_
    rintro e wa ⟨rfl, hba⟩
    have HBA := Lib.hid (hba)
    clear hba
    go_wp2_with fail
    refine bodyPost_ret (results_tmp rfl _ _ _) rfl ?_
    exact ⟨rfl, HBA.out⟩
  have d0 : decide ((3 : Int) < (o : Int)) = false := by simp; omega
  have HKS := Lib.hid (sortKeys_w _ xs 300 w HU.out.rdi (by rw [← HN.out]; omega))
  by_cases c2 : KeysOk xs 300
  case neg =>
    have d2 : decide (KeysOk xs 300) = false := decide_eq_false c2
    rw [d2] at HKS
    clear c2 d2
    go_wp2_with fail
    refine HKS.out.mono ?_
    rintro e w1 ⟨rfl, rfl⟩
    go_wp2_with fail
    refine (awake_w w).mono ?_
    rintro e wa ⟨rfl, hba⟩
    have HBA := Lib.hid (hba)
    clear hba
    go_wp2_with fail
    refine bodyPost_ret (results_tmp rfl _ _ _) rfl ?_
    exact ⟨rfl, HBA.out⟩
  have d2 : decide (KeysOk xs 300) = true := decide_eq_true c2
  rw [d2] at HKS
  have hn3 : n ≤ 300 := by rw [HN.out]; exact c2.2
  have HN3 := Lib.hid hn3
  by_cases c4 : 300 < m
  · have d4 : decide ((300 : Int) < (m : Int)) = true := by simp; omega
    clear c2 d2
    go_wp2_with fail
    refine HKS.out.mono ?_
    rintro e w1 ⟨rfl, rfl⟩
    go_wp2_with fail
    refine (awake_w w).mono ?_
    rintro e wa ⟨rfl, hba⟩
    have HBA := Lib.hid (hba)
    clear hba
    go_wp2_with fail
    refine bodyPost_ret (results_tmp rfl _ _ _) rfl ?_
    exact ⟨rfl, HBA.out⟩
  have d4 : decide ((300 : Int) < (m : Int)) = false := by simp; omega
  have hm3 : m ≤ 300 := by omega
  have HM3 := Lib.hid hm3
  clear c0 c1 c2 c3 c4 d2 hn3 hm3
  have HCL := Lib.hid (cloneI_w _ xs w HU.out (by rw [← HN.out]; have := HN3.out; omega))
  rw [← HN.out] at HCL
  go_wp2_with fail
  refine HKS.out.mono ?_
  rintro e w1 ⟨rfl, rfl⟩
  clear HKS
  go_wp2_with fail
  refine HCL.out.mono ?_
  rintro e w1 ⟨v1, rfl, ho1, hb1⟩
  have HO1 := Lib.hid ho1
  have HB1 := Lib.hid hb1
  obtain ⟨a1, cc1, rfl⟩ := own_len ho1
  clear ho1 hb1 HCL
  go_wp2_with fail
  go_loopg [8, 9, 10, 11, 41] m (fun k v8 v9 v10 v11 v wr => ∃ (j : Nat) (ys : List Int), j + k = m ∧ v = .int .i64 (j : Int) ∧ ys.length = n ∧ (∀ k, k ∈ ys ↔ k ∈ xs) ∧ wr.ownsRow w.heap.size 3 1 (.slice a1 n cc1) n (ys.map (Value.int .i64)) ∧ Below w.heap.size w wr)
  case atStart => exact ⟨0, xs, by omega, rfl, HN.out.symm, fun _ => Iff.rfl, HO1.out, HB1.out⟩
  case round =>
    obtain ⟨j, ys, hjk, rfl, hyl, hmem, ho, hb⟩ := hrel
    have HYL := Lib.hid hyl
    have HMEM := Lib.hid hmem
    have HO := Lib.hid ho
    have HB := Lib.hid hb
    clear hyl hmem ho hb
    by_cases hlt : j < m
    · have h1 : decide ((j : Int) < (m : Int)) = true := by simp; omega
      have hw1 : IntKind.i64.wrap ((j : Int) + 1) = (j : Int) + 1 := by have := HM3.out; rw [IntKind.wrap_i64]; omega
      have hj0 : (0 : Int) ≤ (j : Int) := by omega
      have hj1 : (j : Int) < (m : Int) := by omega
      obtain ⟨x, hx⟩ : ∃ x, ts[j]? = some x := ⟨_, List.getElem?_eq_getElem (by rw [← HM.out]; exact hlt)⟩
      obtain ⟨ta2, tc2, hv, -, hread⟩ := HT.out.below HB.out
      obtain ⟨g1, o1, hg1, hc1⟩ := hread j x hx
      simp only [Value.slice.injEq] at hv
      have hma : ta = some ⟨g1, o1, none⟩ := hv.1.trans hg1
      subst hma
      have htr := HTW.out x (List.mem_of_getElem? hx)
      obtain ⟨t, rfl⟩ : ∃ t : Nat, x = (t : Int) := ⟨x.toNat, by omega⟩
      have HTR : Hid (t ≤ 65535) := by show t ≤ 65535; omega
      clear hv hg1 hread hx htr
      by_cases hn0 : n = 0
      · have d5 : decide ((0 : Int) < (n : Int)) = false := by simp; omega
        have d6 : ¬ 0 < n := by omega
        have HN0 := Lib.hid hn0
        clear hn0
        go_wp2_with fail
        go_roundg (gk - 1)
        case measure => omega
        case rel => exact ⟨j + 1, ys, by omega, rfl, HYL.out, HMEM.out, HO.out, HB.out⟩
      · have d5 : decide ((0 : Int) < (n : Int)) = true := by simp; omega
        have d6 : 0 < n := by omega
        obtain ⟨a, ha⟩ : ∃ a, a = j % n := ⟨_, rfl⟩
        obtain ⟨b, hb⟩ : ∃ b, b = t % n := ⟨_, rfl⟩
        have han : a < n := by rw [ha]; exact Nat.mod_lt _ (by omega)
        have hbn : b < n := by rw [hb]; exact Nat.mod_lt _ (by omega)
        obtain ⟨t1, t2⟩ := nat_tmod j n (by have := HN3.out; omega) hn0
        obtain ⟨t3, t4⟩ := nat_tmod t n (by have := HN3.out; omega) hn0
        rw [← ha] at t1 t2
        rw [← hb] at t3 t4
        have t5 : IntKind.i64.wrap (t : Int) = (t : Int) := by have := HTR.out; rw [IntKind.wrap_i64]; omega
        obtain ⟨g, c', hs⟩ := own_shape HO.out hn0
        simp only [Value.slice.injEq] at hs
        obtain ⟨rfl, -, rfl⟩ := hs
        obtain ⟨x, hx⟩ : ∃ x, ys[a]? = some x := ⟨_, List.getElem?_eq_getElem (by rw [HYL.out]; exact han)⟩
        obtain ⟨y, hy⟩ : ∃ y, ys[b]? = some y := ⟨_, List.getElem?_eq_getElem (by rw [HYL.out]; exact hbn)⟩
        have q1 := own_cell HO.out (i := a) (u := .int .i64 x) (by rw [List.getElem?_map, hx]; rfl)
        have q2 := own_cell HO.out (i := b) (u := .int .i64 y) (by rw [List.getElem?_map, hy]; rfl)
        have f1 := own_free HO.out han
        have f2 := own_free HO.out hbn
        have e1 : (0 : Int) ≤ (a : Int) := by omega
        have e2 : (a : Int) < (n : Int) := by omega
        have e3 : (0 : Int) ≤ (b : Int) := by omega
        have e4 : (b : Int) < (n : Int) := by omega
        have HX := Lib.hid hx
        have HY := Lib.hid hy
        have HAN := Lib.hid han
        have HBN := Lib.hid hbn
        clear ha hb han hbn hx hy
        go_upto_region 10 with (fail)
        refine region_tree (fun W => W = wr.drew) (.one [0, 1, 2, 3, 4, 5, 6, 7, 8] 9 (.one [] 10 .stop)) (by kernel_rfl) (by intro dst v c a w h; cases dst <;> exact h) (by kernel_rfl) rfl ?_
        refine t_one ?_
        simp only [opsOf, List.getElem?_toArray, List.getElem?_cons_succ, List.getElem?_cons_zero]
        repeat (refine r_read ?_ (by kernel_rfl) ?_ (fun K hK => ?_); rotate_left 1; (intro W hR; clear hR; go_simp; try with_reducible rfl); go_simp; refine hK _ ?_; clear hK K)
        refine t_nil1 ?_
        refine r_op rfl (fun K hK => ?_)
        go_simp
        refine hK _ _ rfl ?_
        clear hK K
        refine t_one0 ?_
        refine r_op rfl (fun K hK => ?_)
        go_simp
        refine hK _ _ rfl ?_
        clear hK K
        refine t_end ?_
        clear t1 t2 t3 t4 t5 d5 d6
        go_upto_region 11 with (fail)
        have HOS : Hid (((wr.drew.drew.setCell ⟨g, a, none⟩ (.int .i64 y)).setCell ⟨g, b, none⟩ (.int .i64 x)).ownsRow w.heap.size 3 1 (.slice (some ⟨g, 0, none⟩) n cc1) n (((ys.set a y).set b x).map (Value.int .i64))) := by
          show World.ownsRow _ _ _ _ _ _ _
          rw [← set_map_int, ← set_map_int]
          exact own_set (own_set (own_drew (own_drew HO.out)) HAN.out) HBN.out
        have hgb : w.heap.size ≤ g := (HO.out.lt g rfl).1
        have HBS : Hid (Below w.heap.size w ((wr.drew.drew.setCell ⟨g, a, none⟩ (.int .i64 y)).setCell ⟨g, b, none⟩ (.int .i64 x))) := (HB.out.drew.drew.setCell (p := ⟨g, a, none⟩) hgb _).setCell (p := ⟨g, b, none⟩) hgb _
        obtain ⟨z, hz⟩ : ∃ z, (ys.set a y)[b]? = some z := ⟨_, List.getElem?_eq_getElem (by rw [List.length_set, HYL.out]; exact HBN.out)⟩
        have hz3 : (wr.setCell ⟨g, a, none⟩ (.int .i64 y)).drew.drew.frozen? ⟨g, b, none⟩ = false := own_free (own_set HO.out HAN.out) HBN.out
        have hz4 : (wr.setCell ⟨g, a, none⟩ (.int .i64 y)).drew.drew.cell? ⟨g, b, none⟩ = some (.int .i64 z) := own_cell (own_set HO.out HAN.out) (by rw [set_map_int, List.getElem?_map, hz]; rfl)
        clear hz
        have hz1 : wr.drew.drew.cell? ⟨g, a, none⟩ = some (Value.int IntKind.i64 x) := q1
        have hz2 : wr.drew.drew.cell? ⟨g, b, none⟩ = some (Value.int IntKind.i64 y) := q2
        refine region_tree (fun _ => True) (.two [0, 1, 2, 3, 4, 5, 6, 8, 9, 10] 7 (.one [] 11 (.one [12] 13 (.one [14] 15 .stop))) 11 (.one [] 7 (.one [12] 13 (.one [14] 15 .stop)))) (by kernel_rfl) (by intro dst v c a w h; cases dst <;> exact h) (by kernel_rfl) trivial ?_
        refine t_two ?_
        simp only [opsOf, List.getElem?_toArray, List.getElem?_cons_succ, List.getElem?_cons_zero]
        repeat (refine r_read ?_ (by kernel_rfl) ?_ (fun K hK => ?_); rotate_left 1; (intro W hR; clear hR; go_simp; try with_reducible rfl); go_simp; refine hK _ ?_; clear hK K)
        refine t_nil2 ?_ ?_
        · refine r_op rfl (fun K hK => ?_)
          go_simp
          refine hK _ _ trivial ?_
          clear hK K
          refine t_one0 ?_
          refine r_op rfl (fun K hK => ?_)
          go_simp
          refine hK _ _ trivial ?_
          clear hK K
          refine t_one ?_
          simp only [opsOf, List.getElem?_toArray, List.getElem?_cons_succ, List.getElem?_cons_zero]
          repeat (refine r_read ?_ (by kernel_rfl) ?_ (fun K hK => ?_); rotate_left 1; (intro W hR; clear hR; go_simp; try with_reducible rfl); go_simp; refine hK _ ?_; clear hK K)
          refine t_nil1 ?_
          refine r_op rfl (fun K hK => ?_)
          go_simp
          refine hK _ _ trivial ?_
          clear hK K
          refine t_one ?_
          simp only [opsOf, List.getElem?_toArray, List.getElem?_cons_succ, List.getElem?_cons_zero]
          repeat (refine r_read ?_ (by kernel_rfl) ?_ (fun K hK => ?_); rotate_left 1; (intro W hR; clear hR; go_simp; try with_reducible rfl); go_simp; refine hK _ ?_; clear hK K)
          refine t_nil1 ?_
          refine r_op rfl (fun K hK => ?_)
          go_simp
          refine hK _ _ trivial ?_
          clear hK K
          refine t_end ?_
          go_wp2_with fail
          go_roundg (gk - 1)
          case measure => omega
          case rel => exact ⟨j + 1, _, by omega, rfl, by rw [List.length_set, List.length_set]; exact HYL.out, fun k => (mem_swap HX.out HY.out k).trans (HMEM.out k), HOS.out, HBS.out⟩
        · refine r_op rfl (fun K hK => ?_)
          go_simp
          refine hK _ _ trivial ?_
          clear hK K
          refine t_one0 ?_
          refine r_op rfl (fun K hK => ?_)
          go_simp
          refine hK _ _ trivial ?_
          clear hK K
          refine t_one ?_
          simp only [opsOf, List.getElem?_toArray, List.getElem?_cons_succ, List.getElem?_cons_zero]
          repeat (refine r_read ?_ (by kernel_rfl) ?_ (fun K hK => ?_); rotate_left 1; (intro W hR; clear hR; go_simp; try with_reducible rfl); go_simp; refine hK _ ?_; clear hK K)
          refine t_nil1 ?_
          refine r_op rfl (fun K hK => ?_)
          go_simp
          refine hK _ _ trivial ?_
          clear hK K
          refine t_one ?_
          simp only [opsOf, List.getElem?_toArray, List.getElem?_cons_succ, List.getElem?_cons_zero]
          repeat (refine r_read ?_ (by kernel_rfl) ?_ (fun K hK => ?_); rotate_left 1; (intro W hR; clear hR; go_simp; try with_reducible rfl); go_simp; refine hK _ ?_; clear hK K)
          refine t_nil1 ?_
          refine r_op rfl (fun K hK => ?_)
          go_simp
          refine hK _ _ trivial ?_
          clear hK K
          refine t_end ?_
          go_wp2_with fail
          go_roundg (gk - 1)
          case measure => omega
          case rel => exact ⟨j + 1, _, by omega, rfl, by rw [List.length_set, List.length_set]; exact HYL.out, fun k => (mem_swap HX.out HY.out k).trans (HMEM.out k), HOS.out, HBS.out⟩
    · have h1 : decide ((j : Int) < (m : Int)) = false := by simp; omega
      have HVY : Hid (IV wr (.slice a1 n cc1) ys) := IV.of_own HYL.out.symm rfl HO.out
      clear HO HO1
      have hB2 : Below wr.heap.size wr (wr.alloc (.cells haskCells 27)) := (Below.refl _ _).alloc (Nat.le_refl _) _
      have HA2 := Lib.hid (ask_w o _ xs _ hask (wr.alloc (.cells haskCells 27)) ((HU.out.rdi.below HB.out).below hB2) (by rw [← HN.out]; have := HN3.out; omega) (hask_stps wr) (by decide) hask_ok)
      have HX2 : Hid (Below w.heap.size w (wr.alloc (.cells haskCells 27))) := HB.out.trans (hB2.mono HB.out.size)
      unfold haskCells at HA2 HX2
      clear hB2
      go_wp2_with fail
      refine HA2.out.mono ?_
      rintro e y2 ⟨t2, rfl, ht2, hb2⟩
      obtain ⟨g2, q2, cc2, k2, vv2, rfl, hat2⟩ := hask_told ht2
      have HAT2 := Lib.hid hat2
      have HY2 : Hid (Below w.heap.size w y2) := HX2.out.trans (hb2.mono HX2.out.size)
      have HZ2 : Hid (Below wr.heap.size wr y2) := ((Below.refl wr.heap.size wr).alloc (Nat.le_refl _) _).trans (hb2.mono (by rw [size_alloc]; exact Nat.le_succ _))
      clear HA2 HX2 ht2 hb2 hat2
      have hB3 : Below y2.heap.size y2 (y2.alloc (.cells haskCells 27)) := (Below.refl _ _).alloc (Nat.le_refl _) _
      have HA3 := Lib.hid (ask_w o _ ys _ hask (y2.alloc (.cells haskCells 27)) (((HVY.out.kb (by decide) (KB.of_below 0 HZ2.out)).rdi).below hB3) (by rw [HYL.out]; have := HN3.out; omega) (hask_stps y2) (by decide) hask_ok)
      have HX3 : Hid (Below w.heap.size w (y2.alloc (.cells haskCells 27))) := HY2.out.trans (hB3.mono HY2.out.size)
      unfold haskCells at HA3 HX3
      clear hB3
      go_wp2_with fail
      refine HA3.out.mono ?_
      rintro e y3 ⟨t3, rfl, ht3, hb3⟩
      obtain ⟨g3, q3, cc3, k3, vv3, rfl, hat3⟩ := hask_told ht3
      have HAT3 := Lib.hid hat3
      have HY3 : Hid (Below w.heap.size w y3) := HX3.out.trans (hb3.mono HX3.out.size)
      have HZ3 : Hid (Below y2.heap.size y2 y3) := ((Below.refl y2.heap.size y2).alloc (Nat.le_refl _) _).trans (hb3.mono (by rw [size_alloc]; exact Nat.le_succ _))
      clear HA3 HX3 ht3 hb3 hat3
      go_upto_region 15 with (fail)
      obtain ⟨K1, hK1⟩ : ∃ l, l = (fill (ltO o) 0 xs []).map (·.1) := ⟨_, rfl⟩
      have hK2 : (fill (ltO o) 0 ys []).map (·.1) = K1 := by rw [hK1, fill_mixed (ord_ltO o) HMEM.out]
      have hl1 : K1.length ≤ 300 := by
        rw [hK1, List.length_map]
        have h1 := fill_len (ord_ltO o) xs 0 (es := []) List.Pairwise.nil
        have := HN3.out
        rw [← HN.out, List.length_nil] at h1
        omega
      have HL1 := Lib.hid hl1
      have HAI : Hid (∀ W, Below y3.heap.size y3 W → haskAt W g2 q2 (fill (ltO o) 0 xs []) k2 vv2 ∧ haskAt W g3 q3 (fill (ltO o) 0 ys []) k3 vv3) := fun W hW => ⟨(HAT2.out.below HZ3.out).below hW, HAT3.out.below hW⟩
      have HI2 : Hid (∀ W, Below y3.heap.size y3 W → IV W k2 K1 ∧ IV W k3 K1) := by
        intro W hW
        obtain ⟨h1, h2⟩ := HAI.out W hW
        refine ⟨?_, ?_⟩
        · rw [hK1]; exact h1.2.1
        · rw [← hK2]; exact h2.2.1
      have HC0 : Hid (∀ W, Below y3.heap.size y3 W → W.cell? ⟨g2, q2 + 2, none⟩ = some k2 ∧ W.cell? ⟨g3, q3 + 2, none⟩ = some k3) := fun W hW => by
        obtain ⟨h1, h2⟩ := HAI.out W hW
        exact ⟨h1.1.1, h2.1.1⟩
      have HR0 : Hid (Below y3.heap.size y3 y3.drew) := (Below.refl _ y3).drew
      clear hK1 hK2 hl1 HAI HAT2 HAT3 HZ2 HZ3 HVY
      refine region_tree (fun W => Below y3.heap.size y3 W) (.one [0, 1, 2, 3, 4, 5, 6, 7, 8, 9, 10, 11, 12] 13 (.one [14, 15] 16 (.one [17] 18 .stop))) (by kernel_rfl) (by intro dst v c a w h; cases dst <;> exact h) (by kernel_rfl) HR0.out ?_
      refine t_one ?_
      simp only [opsOf, List.getElem?_toArray, List.getElem?_cons_succ, List.getElem?_cons_zero]
      repeat (refine r_read ?_ (by kernel_rfl) ?_ (fun K hK => ?_); rotate_left 1; (intro W hR; obtain ⟨p1, p2⟩ := HC0.out W hR; clear hR; go_simp; try with_reducible rfl); go_simp; refine hK _ ?_; clear hK K)
      refine t_nil1 ?_
      refine r_op rfl (fun K hK => ?_)
      go_simp
      refine (same_c (w := y3) (HI2.out _ (Below.refl _ _)).1.rdi (HI2.out _ (Below.refl _ _)).2.rdi (by have := HL1.out; omega) _ HR0.out).mono ?_
      rintro e x1 ⟨rfl, hb1⟩
      have HR1 : Hid (Below y3.heap.size y3 x1) := HR0.out.trans (hb1.mono HR0.out.size)
      clear hb1
      refine hK _ _ HR1.out ?_
      clear hK K
      refine t_one ?_
      simp only [opsOf, List.getElem?_toArray, List.getElem?_cons_succ, List.getElem?_cons_zero]
      repeat (refine r_read ?_ (by kernel_rfl) ?_ (fun K hK => ?_); rotate_left 1; (intro W hR; obtain ⟨p1, p2⟩ := HC0.out W hR; clear hR; go_simp; try with_reducible rfl); go_simp; refine hK _ ?_; clear hK K)
      refine t_nil1 ?_
      refine r_op rfl (fun K hK => ?_)
      go_simp
      refine (awake_w x1).mono ?_
      rintro e x2 ⟨rfl, hb2⟩
      have HR2 : Hid (Below y3.heap.size y3 x2) := HR1.out.trans (hb2.mono HR1.out.size)
      clear hb2
      refine hK _ _ HR2.out ?_
      clear hK K
      refine t_one ?_
      simp only [opsOf, List.getElem?_toArray, List.getElem?_cons_succ, List.getElem?_cons_zero]
      repeat (refine r_read ?_ (by kernel_rfl) ?_ (fun K hK => ?_); rotate_left 1; (intro W hR; obtain ⟨p1, p2⟩ := HC0.out W hR; clear hR; go_simp; try with_reducible rfl); go_simp; refine hK _ ?_; clear hK K)
      refine t_nil1 ?_
      refine r_op rfl (fun K hK => ?_)
      go_simp
      refine hK _ _ HR2.out ?_
      clear hK K
      refine t_end ?_
      have HBE : Hid (Below w.heap.size w x2) := HY3.out.trans (HR2.out.mono HY3.out.size)
      clear HC0 HI2
      go_wp2_with fail
      refine bodyPost_ret (results_tmp rfl _ _ _) rfl ?_
      exact ⟨rfl, HBE.out⟩
theorem lmixed_c (c : Int) (hc : 0 ≤ c) (u : Value) (xs : List Int) (tv : Value) (ts : List Int) (htw : ∀ t ∈ ts, (Lit.int IntKind.u16 t).wf = true) (w : World) (hu : RdN w u xs) (ht : RdK .u16 w tv ts) : Calls Try.prog 5 #[.int .u8 c, u, tv] w fun e w' => e = .returned (.bool true) ∧ Below w.heap.size w w' := by
  obtain ⟨o, rfl⟩ : ∃ o : Nat, c = (o : Int) := ⟨c.toNat, by omega⟩
  exact lmixed_w o u xs tv ts (fun t h => wf_u16 (htw t h)) w hu ht
end Go.Proofs.Ytefigjdebakccaa
