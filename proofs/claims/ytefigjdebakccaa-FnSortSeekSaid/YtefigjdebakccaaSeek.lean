/- The walk over the law FnSortSeek. -/
import Derived.Test.YtefigjdebakccaaHalves
import Derived.Test.YtefigjdebakccaaSRig
import Derived.Maps.AppendAt
import Derived.BigRegion
import Derived.BigQuiet
namespace Go.Proofs.Ytefigjdebakccaa
open Go.RowKit

/-- what stands at a place -/
def rd (F : Es) (k : Nat) : Sn := match F[k]? with
  | some y => (y.1, y.2, true)
  | none => (0, 0, false)
theorem rd_t {F : Es} {k : Nat} {y : Int × Int} (h : F[k]? = some y) : rd F k = (y.1, y.2, true) := by unfold rd; rw [h]
theorem rd_f {F : Es} {k : Nat} (h : F.length ≤ k) : rd F k = (0, 0, false) := by unfold rd; rw [List.getElem?_eq_none h]
theorem forth_at (lt : Int → Int → Bool) (F : Es) : ∀ (c t i : Nat), i < c → (seens lt F (pos F t) (List.replicate c (2, 0)))[i]? = some (rd F (t + i))
  | 0, _, _, h => by omega
  | c + 1, t, i, h => by
    have e1 : mvPos lt F (pos F t) (2, 0) = pos F (t + 1) := by
      show (pos F t).bind (fun i => pos F (i + 1)) = _
      unfold pos
      by_cases h : t < F.length
      · rw [if_pos h]; rfl
      · rw [if_neg h, if_neg (by omega)]; rfl
    have e2 : mvSeen F (pos F t) (2, 0) = rd F t := by
      unfold mvSeen pos
      rw [if_pos (.inl rfl)]
      by_cases h : t < F.length
      · rw [if_pos h]; rfl
      · rw [if_neg h, rd_f (by omega)]
    rw [List.replicate_succ]
    show (mvSeen F (pos F t) (2, 0) :: seens lt F (mvPos lt F (pos F t) (2, 0)) (List.replicate c (2, 0)))[i]? = _
    rw [e1, e2]
    cases i with
    | zero => rfl
    | succ i =>
      rw [List.getElem?_cons_succ, forth_at lt F c (t + 1) i (by omega)]
      rw [show t + 1 + i = t + (i + 1) by omega]
theorem back_none (lt : Int → Int → Bool) (F : Es) : ∀ (c i : Nat), i < c → (seens lt F none (List.replicate c (3, 0)))[i]? = some (0, 0, false)
  | 0, _, h => by omega
  | c + 1, i, h => by
    rw [List.replicate_succ]
    show ((0, 0, false) :: seens lt F none (List.replicate c (3, 0)))[i]? = _
    cases i with
    | zero => rfl
    | succ i => rw [List.getElem?_cons_succ, back_none lt F c i (by omega)]
theorem back_at (lt : Int → Int → Bool) (F : Es) : ∀ (c t i : Nat), i < c → t < F.length → (seens lt F (some t) (List.replicate c (3, 0)))[i]? = some (if i ≤ t then rd F (t - i) else (0, 0, false))
  | 0, _, _, h, _ => by omega
  | c + 1, t, i, h, ht => by
    have e1 : mvPos lt F (some t) (3, 0) = ppos t := rfl
    have e2 : mvSeen F (some t) (3, 0) = rd F t := rfl
    rw [List.replicate_succ]
    show (mvSeen F (some t) (3, 0) :: seens lt F (mvPos lt F (some t) (3, 0)) (List.replicate c (3, 0)))[i]? = _
    rw [e1, e2]
    cases i with
    | zero => rw [if_pos (Nat.zero_le _)]; rfl
    | succ i =>
      rw [List.getElem?_cons_succ]
      cases t with
      | zero => rw [ppos_none, back_none lt F c i (by omega), if_neg (by omega)]
      | succ t =>
        rw [ppos_some, back_at lt F c t i (by omega) (by omega)]
        by_cases h : i ≤ t
        · rw [if_pos h, if_pos (by omega), show t + 1 - (i + 1) = t - i by omega]
        · rw [if_neg h, if_neg (by omega)]
/-- where the seeking ends up: forth -/
theorem seek_forth (lt : Int → Int → Bool) (F : Es) (key : Int) {c i : Nat} (h : i < c) : (seens lt F (pos F 0) ((4, key) :: List.replicate c (2, 0)))[i + 1]? = some (rd F (at_ lt F key + i)) := forth_at lt F c (at_ lt F key) i h
theorem seek_back (lt : Int → Int → Bool) (F : Es) (key : Int) {c i : Nat} (h : i < c) : (seens lt F (pos F 0) ((4, key) :: List.replicate c (3, 0)))[i + 1]? = some (if at_ lt F key < F.length ∧ i ≤ at_ lt F key then rd F (at_ lt F key - i) else (0, 0, false)) := by
  show (seens lt F (pos F (at_ lt F key)) (List.replicate c (3, 0)))[i]? = _
  unfold pos
  by_cases h2 : at_ lt F key < F.length
  · rw [if_pos h2, back_at lt F c _ i h h2]
    by_cases h3 : i ≤ at_ lt F key
    · rw [if_pos h3, if_pos ⟨h2, h3⟩]
    · rw [if_neg h3, if_neg (fun h => h3 h.2)]
  · rw [if_neg h2, back_none lt F c i h, if_neg (fun h => h2 h.1)]
theorem info44 : (Try.prog.info? 44).map (fun i => (i.zero, i.size, i.bytes)) = some (some (.agg #[.int .u8 0, .int .i64 0]), 2, 16) := by kernel_rfl
theorem mcells_snoc (l : List Mv) (m : Mv) : mcells (l ++ [m]) = mcells l ++ [.int .u8 (m.1 : Int), .int .i64 m.2] := by rw [mcells_append]; rfl
/-- moves of one's own -/
theorem mv_own {w : World} {B n : Nat} {e : TypeId} {v : Value} {l : List Mv} (hn : n = l.length) (h : w.ownsRow B e 2 v n (mcells l)) : MovesV w v l := by
  obtain ⟨a, c, hv⟩ := own_len h
  refine ⟨a, c, by rw [hv, hn], fun i m hm => ?_⟩
  obtain ⟨k1, k2⟩ := mcells_at hm
  obtain ⟨g, c1, e1, q1⟩ := own_read h k1
  obtain ⟨g2, c2, e2, q2⟩ := own_read h k2
  rw [hv] at e1 e2
  simp only [Value.slice.injEq] at e1 e2
  have k : g2 = g := by have := e2.1.symm.trans e1.1; simpa using this
  subst k
  exact ⟨g2, 0, e1.1, by rw [Nat.zero_add]; exact q1, by rw [Nat.zero_add]; exact q2⟩
theorem two_own (w : World) {B : Nat} (x y : Value) (T : TypeId) (hB : B ≤ w.heap.size) : (w.alloc (.cells #[x, y] T)).ownsRow B T 2 (.slice (some ⟨w.heap.size, 0, none⟩) 1 1) 1 [x, y] :=
  ⟨rfl, .inr ⟨w.heap.size, 1, #[x, y], rfl, hB, heap_alloc_last w _, Nat.le_refl _, by unfold maxLen; omega, rfl, rfl⟩⟩
/-- one of two rows has grown -/
theorem rows_step {wr w' : World} {B n8 : Nat} {v7 v7' v8 : Value} {cs : List Value} (o : Obj) (h8 : wr.ownsRow B 44 2 v8 n8 cs) (hg : (wr.alloc o).grownBy w' v7.ownBlock) (hne : v7.ownBlock ≠ v8.ownBlock) (hat : v7'.ownBlock = v7.ownBlock ∨ v7'.ownBlock = some (wr.heap.size + 1)) :
    w'.ownsRow B 44 2 v8 n8 cs ∧ v7'.ownBlock ≠ v8.ownBlock := by
  have h8A := h8.alloc o
  refine ⟨own_but h8A (but_grown hg) fun k hk e => hne (e.trans hk.symm), fun e => ?_⟩
  rcases hat with h | h
  · exact hne (h.symm.trans e)
  · have h2 := (h8A.lt _ (e.symm.trans h)).2
    rw [size_alloc] at h2
    exact Nat.lt_irrefl _ h2
theorem seek_cells (m : Mv) (j : Nat) (x : Nat × Int) : mcells (m :: List.replicate (j + 1) x) = mcells (m :: List.replicate j x) ++ [.int .u8 (x.1 : Int), .int .i64 x.2] := by
  rw [List.replicate_succ', ← List.cons_append, mcells_snoc]
def seekAsk (key : Int) (c : Nat) : List Stp := [⟨6, 0, 0, 0, (4, key) :: List.replicate c (2, 0)⟩, ⟨6, 0, 0, 0, (4, key) :: List.replicate c (3, 0)⟩]
theorem seek_stps {c : Nat} {key : Int} {v7 v8 : Value} {X : World} {b : Nat} (hX : X.heap[b]? = some (.cells #[.int .u8 6, .int .i64 0, .int .i64 0, .int .i64 0, v7, .int .u8 6, .int .i64 0, .int .i64 0, .int .i64 0, v8] 27 (0, 0))) (h7 : MovesV X v7 ((4, key) :: List.replicate c (2, 0))) (h8 : MovesV X v8 ((4, key) :: List.replicate c (3, 0))) :
    StpsV X (.slice (some ⟨b, 0, none⟩) 2 2) (seekAsk key c) := by
  refine ⟨_, 2, rfl, fun i s hs => ?_⟩
  match i, hs with
  | 0, hs =>
    cases hs
    exact ⟨b, 0, v7, rfl, cell_at (j := 0) hX rfl, cell_at (j := 1) hX rfl, cell_at (j := 2) hX rfl, cell_at (j := 3) hX rfl, cell_at (j := 4) hX rfl, h7⟩
  | 1, hs =>
    cases hs
    exact ⟨b, 0, v8, rfl, cell_at (j := 5) hX rfl, cell_at (j := 6) hX rfl, cell_at (j := 7) hX rfl, cell_at (j := 8) hX rfl, cell_at (j := 9) hX rfl, h8⟩
  | i + 2, hs => simp [seekAsk] at hs
theorem seek_ok {key : Int} {c : Nat} (hc : c ≤ 39) : ∀ s ∈ seekAsk key c, 2 ≤ s.op ∧ s.op ≤ 6 ∧ (∀ m ∈ s.moves, m.1 ≤ 5) ∧ s.moves.length ≤ 100000 := by
  intro s hs
  simp only [seekAsk, List.mem_cons, List.not_mem_nil, or_false] at hs
  rcases hs with rfl | rfl
  · refine ⟨(by decide : 2 ≤ 6), (by decide : 6 ≤ 6), fun m hm => ?_, by simp; omega⟩
    rcases List.mem_cons.1 hm with rfl | hm
    · exact (by decide : 4 ≤ 5)
    · rw [(List.mem_replicate.1 hm).2]; decide
  · refine ⟨(by decide : 2 ≤ 6), (by decide : 6 ≤ 6), fun m hm => ?_, by simp; omega⟩
    rcases List.mem_cons.1 hm with rfl | hm
    · exact (by decide : 4 ≤ 5)
    · rw [(List.mem_replicate.1 hm).2]; decide

theorem sv_reads {w : World} {v : Value} {l : List Sn} (h : SV w v l) : ∃ a c, v = .slice a l.length c ∧ ∀ (i : Nat) (x : Sn), l[i]? = some x → ∃ g, a = some ⟨g, 0, none⟩ ∧ w.cell? ⟨g, i * 3, none⟩ = some (.int .i64 x.1) ∧ w.cell? ⟨g, i * 3 + 1, none⟩ = some (.int .i64 x.2.1) ∧ w.cell? ⟨g, i * 3 + 2, none⟩ = some (.bool x.2.2) := by
  rcases h with ⟨rfl, rfl⟩ | ⟨g, c, cur, rfl, h2, h3⟩
  · exact ⟨none, 0, rfl, fun i x hx => by simp at hx⟩
  · refine ⟨_, c, rfl, fun i x hx => ⟨g, rfl, ?_⟩⟩
    obtain ⟨k1, k2, k3⟩ := h3 i x hx
    exact ⟨cell_at h2 k1, cell_at h2 k2, cell_at h2 k3⟩

theorem pt_reads {w : World} {o fl kc vc : Nat} {ka va : Option Addr} {F : Es} (h : PT w (.agg #[.int .u8 (o : Int), .slice ka fl kc, .slice va fl vc]) o F) : ∀ (i : Nat) (y : Int × Int), F[i]? = some y → ∃ g1 g2, ka = some ⟨g1, 0, none⟩ ∧ va = some ⟨g2, 0, none⟩ ∧ w.cell? ⟨g1, i, none⟩ = some (.int .i64 y.1) ∧ w.cell? ⟨g2, i, none⟩ = some (.int .i64 y.2) := by
  obtain ⟨ka', kc', va', vc', e, h1, h2, -, -⟩ := h
  simp only [Value.agg.injEq, Array.mk.injEq, List.cons.injEq, and_true, true_and, Value.slice.injEq] at e
  obtain ⟨⟨rfl, -, -⟩, ⟨rfl, -, -⟩⟩ := e
  intro i y hy
  obtain ⟨a1, c1, e1, r1⟩ := h1.reads
  obtain ⟨a2, c2, e2, r2⟩ := h2.reads
  simp only [Value.slice.injEq] at e1 e2
  obtain ⟨g1, ea1, k1⟩ := r1 i y.1 (by rw [List.getElem?_map, hy]; rfl)
  obtain ⟨g2, ea2, k2⟩ := r2 i y.2 (by rw [List.getElem?_map, hy]; rfl)
  exact ⟨g1, g2, e1.1.trans ea1, e2.1.trans ea2, k1, k2⟩

set_option maxRecDepth 100000 in
set_option maxHeartbeats 16000000 in
theorem lseek_w (o : Nat) (u : Value) (xs : List Int) (key : Int) (w : World) (hu : RdN w u xs) : Calls Try.prog 6 #[.int .u8 (o : Int), u, .int .i64 key] w fun e w' => e = .returned (.bool true) ∧ Below w.heap.size w w' := by
  obtain ⟨i3, hi, hz0, hz1, hz2⟩ := info_parts info3
  have HI := Lib.hid (And.intro hi (And.intro hz0 (And.intro hz1 hz2)))
  clear hi hz0 hz1 hz2
  have HU := Lib.hid hu
  obtain ⟨ua, uc, rfl, -⟩ := hu
  obtain ⟨n, hn⟩ : ∃ n, n = xs.length := ⟨_, rfl⟩
  rw [← hn] at HU ⊢
  have HN := Lib.hid hn
  clear hn
  go_enter Try.func6, Try.ntmps6
  by_cases c1 : 2147483647 < n
  · have d1 : decide ((2147483647 : Int) < (n : Int)) = true := by simp; omega
    go_wp2_with fail
    go_ret
    exact ⟨rfl, Below.refl _ _⟩
  have d1 : decide ((2147483647 : Int) < (n : Int)) = false := by simp; omega
  by_cases c0 : 3 < o
  · have d0 : decide ((3 : Int) < (o : Int)) = true := by simp; omega
    go_wp2_with fail
    refine (awake_w w).mono ?_
    rintro e wa ⟨rfl, hba⟩
    have HBA := Lib.hid (hba)
    clear hba
    go_wp2_with fail
    refine bodyPost_ret (results_tmp rfl _ _ _) rfl ?_
    exact ⟨rfl, HBA.out⟩
  have d0 : decide ((3 : Int) < (o : Int)) = false := by simp; omega
  have hnl : n ≤ 2147483647 := by omega
  have HNL := Lib.hid hnl
  have HCL := Lib.hid (cloneI_w _ xs w HU.out (by rw [← HN.out]; omega))
  rw [← HN.out] at HCL
  clear c1 c0 hnl
  go_wp2_with fail
  refine HCL.out.mono ?_
  rintro e w1 ⟨v1, rfl, ho1, hb1⟩
  have HO1 := Lib.hid ho1
  have HB1 := Lib.hid hb1
  clear ho1 hb1 HCL
  go_wp2_with (at_builtin; refine wpList_guarded (by kernel_rfl) (wp_append_own _ (.tmp 25) (.tmp 27) 22 rfl w.heap.size 3 i3 (.int .i64 0) 1 8 Try.underlying22 HI.out.1 HI.out.2.1 HI.out.2.2.1 HI.out.2.2.2 rfl (by decide) _ _ _ rfl (HO1.out.alloc _) ⟨w1.heap.size, 0, none⟩ 1 1 [.int .i64 key] rfl rfl (one_new3 _ _) (one_oneCell rfl) (by have := HNL.out; unfold maxLen; omega) (by have := HNL.out; omega) (by have := HB1.out.size; rw [size_alloc]; omega) ?_))
  intro v2 w2 hown2 hgrow2 _
  have hsz : w.heap.size ≤ w1.heap.size := HB1.out.size
  have HB2 := Lib.hid (HB1.out.trans (below_grown ((Below.refl w.heap.size w1).alloc hsz (.cells #[.int .i64 key] 3)) HO1.out (Nat.le_refl _) hsz hgrow2))
  have HV2 : Hid (IV w2 v2 (xs ++ [key])) := IV.of_own (n := n + 1) (by rw [List.length_append, ← HN.out]; rfl) (by rw [List.map_append]; rfl) hown2
  have HKS := Lib.hid (sortKeys_w _ (xs ++ [key]) 61 w2 HV2.out.rdi (by rw [List.length_append, ← HN.out]; have := HNL.out; simp; omega))
  obtain ⟨v2a, v2c, rfl⟩ := own_len hown2
  clear hown2 hgrow2 hsz HO1
  by_cases c2 : KeysOk (xs ++ [key]) 61
  case neg =>
    have d2 : decide (KeysOk (xs ++ [key]) 61) = false := decide_eq_false c2
    rw [d2] at HKS
    clear c2 d2
    go_wp2_with fail
    refine HKS.out.mono ?_
    rintro e w1 ⟨rfl, rfl⟩
    go_wp2_with fail
    refine (awake_w w2).mono ?_
    rintro e wa ⟨rfl, hba⟩
    have HBA := Lib.hid (HB2.out.trans (hba.mono HB2.out.size))
    clear hba
    go_wp2_with fail
    refine bodyPost_ret (results_tmp rfl _ _ _) rfl ?_
    exact ⟨rfl, HBA.out⟩
  have d2 : decide (KeysOk (xs ++ [key]) 61) = true := decide_eq_true c2
  rw [d2] at HKS
  have hn3 : n ≤ 60 := by rw [HN.out]; have := c2.2; rw [List.length_append, List.length_singleton] at this; omega
  have HN3 := Lib.hid hn3
  clear c2 d2 hn3
  obtain ⟨i44, hi, hz0, hz1, hz2⟩ := info_parts info44
  have HI4 := Lib.hid (And.intro hi (And.intro hz0 (And.intro hz1 hz2)))
  clear hi hz0 hz1 hz2
  go_wp2_with fail
  refine HKS.out.mono ?_
  rintro e w3 ⟨rfl, rfl⟩
  go_upto_region 6 with (fail)
  obtain ⟨B, hBB⟩ : ∃ B, B = w2.heap.size := ⟨_, rfl⟩
  have HO7 : Hid (((w2.alloc (.cells #[.int .u8 4, .int .i64 key] 44)).alloc (.cells #[.int .u8 4, .int .i64 key] 44)).ownsRow B 44 2 (.slice (some ⟨B, 0, none⟩) 1 1) 1 [.int .u8 4, .int .i64 key]) := by
    rw [hBB]
    exact (two_own w2 _ _ 44 (Nat.le_refl _)).alloc _
  have HO8 : Hid (((w2.alloc (.cells #[.int .u8 4, .int .i64 key] 44)).alloc (.cells #[.int .u8 4, .int .i64 key] 44)).ownsRow B 44 2 (.slice (some ⟨B + 1, 0, none⟩) 1 1) 1 [.int .u8 4, .int .i64 key]) := by
    have h := two_own (w2.alloc (.cells #[.int .u8 4, .int .i64 key] 44)) (B := B) (.int .u8 4) (.int .i64 key) 44 (by rw [size_alloc]; omega)
    rw [size_alloc, ← hBB] at h
    exact h
  have HB3 : Hid (Below w2.heap.size w2 ((w2.alloc (.cells #[.int .u8 4, .int .i64 key] 44)).alloc (.cells #[.int .u8 4, .int .i64 key] 44))) := ((Below.refl _ _).alloc (Nat.le_refl _) _).alloc (by rw [size_alloc]; omega) _
  generalize (w2.alloc (.cells #[.int .u8 4, .int .i64 key] 44)).alloc (.cells #[.int .u8 4, .int .i64 key] 44) = X at HO7 HO8 HB3 ⊢
  rw [← hBB] at HB3 ⊢
  have HBB := Lib.hid hBB
  clear hBB HKS HV2
  have HU2 : Hid (∀ W, Below B X W → RdI W (.slice ua n uc) xs) := fun W hW => HU.out.rdi.below (HB2.out.trans ((HB3.out.trans hW).mono (by rw [HBB.out]; exact HB2.out.size)))
  have HSO := Lib.hid (sorted_w o _ xs X (HU2.out X (Below.refl _ _)) (by rw [← HN.out]; have := HN3.out; omega))
  have HXB : Hid (B ≤ X.heap.size) := by rw [HBB.out]; exact HB3.out.size
  obtain ⟨F, hF⟩ : ∃ F, F = fill (ltO o) 0 xs [] := ⟨_, rfl⟩
  rw [← hF] at HSO
  have HF := Lib.hid hF
  have hfs : Srt (ltO o) F := by rw [HF.out]; exact fill_srt (ord_ltO o) xs 0 List.Pairwise.nil
  have hfl : F.length ≤ 60 := by
    rw [HF.out]
    have h1 := fill_len (ord_ltO o) xs 0 (es := []) List.Pairwise.nil
    have := HN3.out
    rw [← HN.out, List.length_nil] at h1
    omega
  have HFS := Lib.hid hfs
  clear hF hfs
  go_wp2_with fail
  refine HSO.out.mono ?_
  rintro e w4 ⟨v, rfl, hpt, hb4⟩
  have HPT := Lib.hid hpt
  obtain ⟨ka, kc, va, vc, rfl, -⟩ := hpt
  obtain ⟨fl, hfll⟩ : ∃ m, m = F.length := ⟨_, rfl⟩
  rw [← hfll] at HPT ⊢
  have HFLL := Lib.hid hfll
  have HFL : Hid (fl ≤ 60) := by show fl ≤ 60; omega
  have HO74 := Lib.hid (own_below HO7.out hb4)
  have HO84 := Lib.hid (own_below HO8.out hb4)
  have HB4 := Lib.hid (hb4.mono HXB.out)
  clear hb4 hfl hfll HSO HO7 HO8
  go_upto_region 7 with (fail)
  have hbx : Below w4.heap.size w4 (w4.alloc (.cells #[.int .u8 (o : Int), .slice ka fl kc, .slice va fl vc] 46)) := (Below.refl _ _).alloc (Nat.le_refl _) _
  have HX9 : Hid ((w4.alloc (.cells #[.int .u8 (o : Int), .slice ka fl kc, .slice va fl vc] 46)).heap[w4.heap.size]? = some (.cells #[.int .u8 (o : Int), .slice ka fl kc, .slice va fl vc] 46 (0, 0))) := heap_alloc_last w4 _
  have HBY : Hid (B ≤ w4.heap.size) := by have := HB4.out.size; have := HXB.out; show B ≤ w4.heap.size; omega
  have HB5 := Lib.hid (HB4.out.trans (hbx.mono HBY.out))
  have HPY := Lib.hid (HPT.out.below hbx)
  have HO75 := Lib.hid (own_below HO74.out hbx)
  have HO85 := Lib.hid (own_below HO84.out hbx)
  have HYB : Hid (B ≤ (w4.alloc (.cells #[.int .u8 (o : Int), .slice ka fl kc, .slice va fl vc] 46)).heap.size) := by have := HBY.out; rw [size_alloc]; show B ≤ w4.heap.size + 1; omega
  clear hbx HO74 HO84 HB4 HPT
  generalize w4.alloc (.cells #[.int .u8 (o : Int), .slice ka fl kc, .slice va fl vc] 46) = Y at HX9 HB5 HPY HO75 HO85 HYB ⊢
  generalize w4.heap.size = b9 at HX9 HBY ⊢
  clear w4
  have x1 := cell_at (j := 1) HX9.out rfl
  obtain ⟨c, hc⟩ : ∃ c, c = min fl 39 := ⟨_, rfl⟩
  have HC : Hid (c ≤ fl ∧ c ≤ 39) := by show c ≤ fl ∧ c ≤ 39; omega
  go_cut [45, 46] from 42 to 46 (fun v45 v46 wc => v45 = .int .i64 (c : Int) ∧ v46 = .int .i64 0 ∧ wc = Y)
  case first =>
    by_cases k : fl ≤ 39
    · have e : (fl : Int) ≤ 39 := by omega
      go_wp2_with fail
      go_meet
      case rel => exact ⟨by rw [show c = fl by omega], rfl, rfl⟩
    · have e : ¬ ((fl : Int) ≤ 39) := by omega
      go_wp2_with fail
      go_meet
      case rel => exact ⟨by rw [show c = 39 by omega]; rfl, rfl, rfl⟩
  case rest =>
    obtain ⟨rfl, rfl, rfl⟩ := hcut
    obtain ⟨Y, rfl⟩ : ∃ W : World, W = wc := ⟨_, rfl⟩
    clear hc x1
    go_wp2_with fail
    go_loopg [7, 8, 46] c (fun k v7 v8 v46 wr => ∃ j : Nat, j + k = c ∧ v46 = .int .i64 (j : Int) ∧ wr.ownsRow B 44 2 v7 (j + 1) (mcells ((4, key) :: List.replicate j (2, 0))) ∧ wr.ownsRow B 44 2 v8 (j + 1) (mcells ((4, key) :: List.replicate j (3, 0))) ∧ v7.ownBlock ≠ v8.ownBlock ∧ KB 44 Y wr ∧ Below B X wr)
    case atStart => exact ⟨0, by omega, rfl, HO75.out, HO85.out, by simp [Value.ownBlock], KB.of_below 44 (Below.refl _ _), HB5.out⟩
    case round =>
      obtain ⟨j, hjk, rfl, h7, h8, hne, hkb, hb⟩ := hrel
      have HO7 := Lib.hid h7
      have HO8 := Lib.hid h8
      have HNE := Lib.hid hne
      have HKB := Lib.hid hkb
      have HB := Lib.hid hb
      clear h7 h8 hne hkb hb
      by_cases hlt : j < c
      · have h1 : decide ((j : Int) < (c : Int)) = true := by simp; omega
        have hw1 : IntKind.i64.wrap ((j : Int) + 1) = (j : Int) + 1 := by have := HC.out; rw [IntKind.wrap_i64]; omega
        have HJ : Hid (j < 1000) := by have := HC.out; show j < 1000; omega
        have HWS : Hid (B ≤ wr.heap.size) := by have := HB.out.size; have := HXB.out; show B ≤ wr.heap.size; omega
        go_wp2_with (at_builtin; refine wpList_append_own_at _ rfl (.tmp 48) (.tmp 50) 25 rfl B 44 i44 (.agg #[.int .u8 0, .int .i64 0]) 2 16 Try.underlying25 HI4.out.1 HI4.out.2.1 HI4.out.2.2.1 HI4.out.2.2.2 rfl (by decide) _ _ _ rfl (HO7.out.alloc _) ⟨wr.heap.size, 0, none⟩ 1 1 [.int .u8 2, .int .i64 0] rfl rfl (two_new _ _ _ _) (two_one rfl rfl) (by have := HJ.out; unfold maxLen; omega) (by have := HJ.out; omega) (by have := HWS.out; rw [size_alloc]; omega) ?_)
        intro v4 w4 hown4 hgrow4 _ hat4
        obtain ⟨r8, n8⟩ := rows_step _ HO8.out hgrow4 HNE.out hat4
        have hk4 : KB 44 wr w4 := (KB.of_below 44 ((Below.refl wr.heap.size wr).alloc (Nat.le_refl _) _)).trans (KB.grown (HO7.out.alloc _) hgrow4)
        have hb4 : Below B wr w4 := below_grown ((Below.refl B wr).alloc HWS.out _) HO7.out (Nat.le_refl _) HWS.out hgrow4
        have HO74 : Hid (w4.ownsRow B 44 2 v4 (j + 1 + 1) (mcells ((4, key) :: List.replicate (j + 1) (2, 0)))) := by
          show w4.ownsRow B 44 2 v4 (j + 1 + 1) (mcells ((4, key) :: List.replicate (j + 1) (2, 0)))
          rw [seek_cells]
          exact hown4
        have HO84 := Lib.hid r8
        have HN4 := Lib.hid n8
        have HKB4 := Lib.hid (HKB.out.trans hk4)
        have HB4 := Lib.hid (HB.out.trans hb4)
        have HWS4 : Hid (B ≤ w4.heap.size) := by have := hb4.size; have := HWS.out; show B ≤ w4.heap.size; omega
        clear hown4 hgrow4 hat4 r8 n8 hk4 hb4
        go_wp2_with (at_builtin; refine wpList_append_own_at _ rfl (.tmp 52) (.tmp 54) 25 rfl B 44 i44 (.agg #[.int .u8 0, .int .i64 0]) 2 16 Try.underlying25 HI4.out.1 HI4.out.2.1 HI4.out.2.2.1 HI4.out.2.2.2 rfl (by decide) _ _ _ rfl (HO84.out.alloc _) ⟨w4.heap.size, 0, none⟩ 1 1 [.int .u8 3, .int .i64 0] rfl rfl (two_new _ _ _ _) (two_one rfl rfl) (by have := HJ.out; unfold maxLen; omega) (by have := HJ.out; omega) (by have := HWS4.out; rw [size_alloc]; omega) ?_)
        intro v5 w5 hown5 hgrow5 _ hat5
        obtain ⟨r7, n7⟩ := rows_step _ HO74.out hgrow5 HN4.out.symm hat5
        have hk5 : KB 44 w4 w5 := (KB.of_below 44 ((Below.refl w4.heap.size w4).alloc (Nat.le_refl _) _)).trans (KB.grown (HO84.out.alloc _) hgrow5)
        have hb5 : Below B w4 w5 := below_grown ((Below.refl B w4).alloc HWS4.out _) HO84.out (Nat.le_refl _) HWS4.out hgrow5
        have HO85' : Hid (w5.ownsRow B 44 2 v5 (j + 1 + 1) (mcells ((4, key) :: List.replicate (j + 1) (3, 0)))) := by
          show w5.ownsRow B 44 2 v5 (j + 1 + 1) (mcells ((4, key) :: List.replicate (j + 1) (3, 0)))
          rw [seek_cells]
          exact hown5
        have HO75' := Lib.hid r7
        have HN5 := Lib.hid n7
        have HKB5 := Lib.hid (HKB4.out.trans hk5)
        have HB5' := Lib.hid (HB4.out.trans hb5)
        clear hown5 hgrow5 hat5 r7 n7 hk5 hb5
        go_wp2_with fail
        go_roundg (gk - 1)
        case measure => omega
        case rel => exact ⟨j + 1, by omega, rfl, HO75'.out, HO85'.out, HN5.out.symm, HKB5.out, HB5'.out⟩
      · have h1 : decide ((j : Int) < (c : Int)) = false := by simp; omega
        obtain rfl : c = j := by omega
        obtain ⟨g7, c7, rfl⟩ := own_shape HO7.out (by omega)
        obtain ⟨g8, c8, rfl⟩ := own_shape HO8.out (by omega)
        obtain ⟨Z, rfl⟩ : ∃ W : World, W = wr := ⟨_, rfl⟩
        obtain ⟨C, hC⟩ : ∃ C, C = c + 1 := ⟨_, rfl⟩
        rw [← hC] at HO7 HO8 ⊢
        have HCC := Lib.hid hC
        have HM7 : Hid (MovesV Z (.slice (some ⟨g7, 0, none⟩) C c7) ((4, key) :: List.replicate c (2, 0))) := mv_own (by rw [List.length_cons, List.length_replicate, HCC.out]) HO7.out
        have HM8 : Hid (MovesV Z (.slice (some ⟨g8, 0, none⟩) C c8) ((4, key) :: List.replicate c (3, 0))) := mv_own (by rw [List.length_cons, List.length_replicate, HCC.out]) HO8.out
        have HP6 := Lib.hid (HPY.out.kb (by decide) HKB.out)
        have HX9' : Hid (Z.heap[b9]? = some (.cells #[.int .u8 (o : Int), .slice ka fl kc, .slice va fl vc] 46 (0, 0))) := HKB.out b9 _ _ HX9.out (by decide)
        clear hC hlt hjk HO75 HO85 HNE HKB HPY HX9 HB5 HYB HO7 HO8
        have HZB : Hid (B ≤ Z.heap.size) := by have := HB.out.size; have := HXB.out; show B ≤ Z.heap.size; omega
        have hbz : Below Z.heap.size Z (Z.alloc (.cells #[.int .u8 6, .int .i64 0, .int .i64 0, .int .i64 0, .slice (some ⟨g7, 0, none⟩) C c7, .int .u8 6, .int .i64 0, .int .i64 0, .int .i64 0, .slice (some ⟨g8, 0, none⟩) C c8] 27)) := (Below.refl _ _).alloc (Nat.le_refl _) _
        have HASK := Lib.hid (ask_w o (.slice ua n uc) xs _ (seekAsk key c) (Z.alloc (.cells #[.int .u8 6, .int .i64 0, .int .i64 0, .int .i64 0, .slice (some ⟨g7, 0, none⟩) C c7, .int .u8 6, .int .i64 0, .int .i64 0, .int .i64 0, .slice (some ⟨g8, 0, none⟩) C c8] 27)) (HU2.out _ (HB.out.trans (hbz.mono HZB.out))) (by rw [← HN.out]; have := HN3.out; omega) (seek_stps (heap_alloc_last Z _) (HM7.out.below hbz) (HM8.out.below hbz)) (by simp [seekAsk]) (seek_ok HC.out.2))
        have HBZ := Lib.hid hbz
        have HB6 := Lib.hid (HB.out.trans (hbz.mono HZB.out))
        clear hbz HB HM7 HM8
        go_wp2_with fail
        refine HASK.out.mono ?_
        rintro e w5 ⟨t, rfl, ht, hb5⟩
        have hbZ5 : Below Z.heap.size Z w5 := HBZ.out.trans (hb5.mono HBZ.out.size)
        have HZ5 := Lib.hid hbZ5
        have HB7 : Hid (Below B X w5) := HB6.out.trans (hb5.mono (Nat.le_trans HZB.out HBZ.out.size))
        have HP5 := Lib.hid (HP6.out.below hbZ5)
        have HX5 : Hid (w5.heap[b9]? = some (.cells #[.int .u8 (o : Int), .slice ka fl kc, .slice va fl vc] 46 (0, 0))) := below_at hbZ5 HX9'.out
        obtain ⟨ta, tc, rfl, hread⟩ := ht
        obtain ⟨g, q, ks1, vs1, ss1, hta, -, -, -, -, k1, -, -, hs1⟩ := hread 0 _ rfl
        obtain ⟨g', q', ks2, vs2, ss2, hta', -, -, -, -, k2, -, -, hs2⟩ := hread 1 _ rfl
        subst hta
        obtain ⟨rfl, rfl⟩ : g' = g ∧ q' = q := by simpa using hta'.symm
        obtain ⟨S1, hS1⟩ : ∃ S, S = seens (ltO o) F (pos F 0) ((4, key) :: List.replicate c (2, 0)) := ⟨_, rfl⟩
        obtain ⟨S2, hS2⟩ : ∃ S, S = seens (ltO o) F (pos F 0) ((4, key) :: List.replicate c (3, 0)) := ⟨_, rfl⟩
        have e1 : (tell (ltO o) (fill (ltO o) 0 xs []) ⟨6, 0, 0, 0, (4, key) :: List.replicate c (2, 0)⟩).seen = S1 := by rw [hS1, HF.out]; rfl
        have e2 : (tell (ltO o) (fill (ltO o) 0 xs []) ⟨6, 0, 0, 0, (4, key) :: List.replicate c (3, 0)⟩).seen = S2 := by rw [hS2, HF.out]; rfl
        rw [e1] at hs1
        rw [e2] at hs2
        have l1 : S1.length = C := by rw [hS1, seens_len, List.length_cons, List.length_replicate, HCC.out]
        have l2 : S2.length = C := by rw [hS2, seens_len, List.length_cons, List.length_replicate, HCC.out]
        obtain ⟨a1, cc1, rfl, hr1⟩ := sv_reads hs1
        obtain ⟨a2, cc2, rfl, hr2⟩ := sv_reads hs2
        obtain ⟨z1, hz1⟩ : ∃ z, S1[0]? = some z := ⟨_, List.getElem?_eq_getElem (by rw [l1, HCC.out]; omega)⟩
        obtain ⟨z2, hz2⟩ : ∃ z, S2[0]? = some z := ⟨_, List.getElem?_eq_getElem (by rw [l2, HCC.out]; omega)⟩
        obtain ⟨h1, rfl, -⟩ := hr1 0 _ hz1
        obtain ⟨h2, rfl, -⟩ := hr2 0 _ hz2
        have HR1 : Hid (∀ (i : Nat) (x : Sn), S1[i]? = some x → w5.cell? ⟨h1, i * 3, none⟩ = some (.int .i64 x.1) ∧ w5.cell? ⟨h1, i * 3 + 1, none⟩ = some (.int .i64 x.2.1) ∧ w5.cell? ⟨h1, i * 3 + 2, none⟩ = some (.bool x.2.2)) := fun i x hx => by
          obtain ⟨g, e, r⟩ := hr1 i x hx
          simp only [Option.some.injEq, Addr.mk.injEq, and_true] at e
          rw [e]
          exact r
        have HR2 : Hid (∀ (i : Nat) (x : Sn), S2[i]? = some x → w5.cell? ⟨h2, i * 3, none⟩ = some (.int .i64 x.1) ∧ w5.cell? ⟨h2, i * 3 + 1, none⟩ = some (.int .i64 x.2.1) ∧ w5.cell? ⟨h2, i * 3 + 2, none⟩ = some (.bool x.2.2)) := fun i x hx => by
          obtain ⟨g, e, r⟩ := hr2 i x hx
          simp only [Option.some.injEq, Addr.mk.injEq, and_true] at e
          rw [e]
          exact r
        rw [l1] at k1
        rw [l2] at k2
        have HS1 := Lib.hid hS1
        have HS2 := Lib.hid hS2
        rw [show q' + 0 * 5 + 4 = q' + 4 by omega] at k1
        rw [show q' + 1 * 5 + 4 = q' + 5 + 4 by omega] at k2
        have HK1 := Lib.hid k1
        have HK2 := Lib.hid k2
        have dne : ((C : Int) != (C : Int)) = false := by simp
        clear hread hta' e1 e2 hs1 hs2 l1 l2 hr1 hr2 hz1 hz2 hS1 hS2 hb5 hbZ5 HASK HB6 HBZ HP6 HX9'
        rw [List.length_map, show (seekAsk key c).length = 2 from rfl]
        go_upto_block 2 with (fail)
        obtain ⟨A, hA⟩ : ∃ A, A = at_ (ltO o) F key := ⟨_, rfl⟩
        have HA := Lib.hid hA
        have HAL : Hid (A ≤ fl) := by
          show A ≤ fl
          rw [HA.out, HFLL.out]
          exact at_le F key
        have x1 := cell_at (j := 1) HX5.out rfl
        clear hA k1 k2
        go_cut [12] from 90 to 106 (fun v12 wc => v12 = .int .i64 (A : Int) ∧ wc = w5)
        case first =>
          go_wp2_with fail
          go_loopg [12] fl (fun k v12 wr => ∃ j : Nat, j + k = fl ∧ v12 = .int .i64 (j : Int) ∧ j ≤ A ∧ wr = w5)
          case atStart => exact ⟨0, by omega, rfl, Nat.zero_le _, rfl⟩
          case round =>
            obtain ⟨j, hjk, rfl, hjA, hww⟩ := hrel
            subst hww
            by_cases hlt : j < fl
            · have d2 : decide ((j : Int) < (fl : Int)) = true := by simp; omega
              have hw1 : IntKind.i64.wrap ((j : Int) + 1) = (j : Int) + 1 := by have := HFL.out; rw [IntKind.wrap_i64]; omega
              have hj0 : (0 : Int) ≤ (j : Int) := by omega
              have hj1 : (j : Int) < (fl : Int) := by omega
              obtain ⟨⟨y1, y2⟩, hy⟩ : ∃ y, F[j]? = some y := ⟨_, List.getElem?_eq_getElem (by rw [← HFLL.out]; exact hlt)⟩
              obtain ⟨g1, g2, rfl, rfl, p1, p2⟩ := pt_reads HP5.out j _ hy
              simp only at p1 p2
              by_cases hjl : j < A
              · have hl : ltO o y1 key = true := at_lo (by rw [← HA.out]; exact hjl) hy
                have HAH := Lib.hid (ahead_w o y1 key wr)
                rw [hl] at HAH
                clear hy hl p2
                go_wp2_with fail
                refine HAH.out.mono ?_
                rintro e w6 ⟨rfl, rfl⟩
                go_wp2_with fail
                go_roundg (gk - 1)
                case measure => omega
                case rel => exact ⟨j + 1, by omega, rfl, by omega, rfl⟩
              · obtain rfl : A = j := by omega
                have hl : ltO o y1 key = false := at_hi (k := key) (by rw [← HA.out]; exact hy)
                have HAH := Lib.hid (ahead_w o y1 key wr)
                rw [hl] at HAH
                clear hy hl p2
                go_wp2_with fail
                refine HAH.out.mono ?_
                rintro e w6 ⟨rfl, rfl⟩
                go_wp2_with fail
                go_meet
                case rel => exact ⟨rfl, rfl⟩
            · have d2 : decide ((j : Int) < (fl : Int)) = false := by simp; omega
              obtain rfl : fl = j := by omega
              have hAf : A = fl := by have := HAL.out; omega
              go_wp2_with fail
              go_meet
              case rel => exact ⟨by rw [hAf], rfl⟩
        case rest =>
          obtain ⟨rfl, rfl⟩ := hcut
          obtain ⟨W5, rfl⟩ : ∃ W : World, W = wc := ⟨_, rfl⟩
          clear x1
          go_wp2_with fail
          go_loopg [13, 14, 15, 16, 17] c (fun k v13 v14 v15 v16 v17 wr => ∃ i : Nat, i + k = c ∧ v13 = .int .i64 ((i + 1 : Nat) : Int) ∧ Below W5.heap.size W5 wr)
          case atStart => exact ⟨0, by omega, rfl, Below.refl _ _⟩
          case round =>
            obtain ⟨i, hik, rfl, hb⟩ := hrel
            have HB := Lib.hid hb
            clear hb
            obtain ⟨j, hj⟩ : ∃ j, j = i + 1 := ⟨_, rfl⟩
            rw [← hj]
            have HCL : Hid (c ≤ 39 ∧ C = c + 1) := ⟨HC.out.2, HCC.out⟩
            have hw1 : IntKind.i64.wrap ((j : Int) + 1) = ((j + 1 : Nat) : Int) := by have := HCL.out; rw [IntKind.wrap_i64]; omega
            have hj0 : (0 : Int) ≤ (j : Int) := by omega
            by_cases hlt : i < c
            · have d3 : decide ((j : Int) < (C : Int)) = true := by have := HCL.out; simp; omega
              have hj1 : (j : Int) < (C : Int) := by have := HCL.out; omega
              have hx1 : S1[j]? = some (rd F (A + i)) := by rw [HS1.out, hj, HA.out]; exact seek_forth (ltO o) F key hlt
              have hx2 : S2[j]? = some (if A < fl ∧ i ≤ A then rd F (A - i) else (0, 0, false)) := by rw [HS2.out, hj, HA.out, HFLL.out]; exact seek_back (ltO o) F key hlt
              obtain ⟨⟨a1, a2, a3⟩, hsa⟩ : ∃ x, x = rd F (A + i) := ⟨_, rfl⟩
              obtain ⟨⟨b1, b2, b3⟩, hsb⟩ : ∃ x, x = (if A < fl ∧ i ≤ A then rd F (A - i) else (0, 0, false)) := ⟨_, rfl⟩
              rw [← hsa] at hx1
              rw [← hsb] at hx2
              obtain ⟨m0, m1, m2⟩ := HR1.out j _ hx1
              obtain ⟨n0, n1, n2⟩ := HR2.out j _ hx2
              simp only at m0 m1 m2 n0 n1 n2
              have k1 := bcell HB.out HK1.out
              have k2 := bcell HB.out HK2.out
              replace m0 := bcell HB.out m0
              replace m1 := bcell HB.out m1
              replace m2 := bcell HB.out m2
              replace n0 := bcell HB.out n0
              replace n1 := bcell HB.out n1
              replace n2 := bcell HB.out n2
              have HSA := Lib.hid hsa
              have HSB := Lib.hid hsb
              have HJI := Lib.hid hj
              clear hx1 hx2 hsa hsb hj
              go_upto_region 20 with (fail)
              go_cut [14, 15] from 113 to 126 (fun v14 v15 wc => ∃ b14 b15 : Nat, v14 = .pointer (some ⟨b14, 0, none⟩) ∧ v15 = .pointer (some ⟨b15, 0, none⟩) ∧ wc.heap[b14]? = some (.cells #[.int .i64 a1, .int .i64 a2, .bool a3] 49 (0, 0)) ∧ wc.heap[b15]? = some (.cells #[.int .i64 b1, .int .i64 b2, .bool b3] 49 (0, 0)) ∧ Below W5.heap.size W5 wc)
              case first =>
                obtain ⟨D, hDD⟩ : ∃ D, D = wr.heap.size := ⟨_, rfl⟩
                have HDD := Lib.hid hDD
                clear hDD
                have HC0 : Hid (∀ W, Below D wr W → W.cell? ⟨g', q' + 4, none⟩ = some (.slice (some ⟨h1, 0, none⟩) C cc1) ∧ W.cell? ⟨g', q' + 5 + 4, none⟩ = some (.slice (some ⟨h2, 0, none⟩) C cc2) ∧ (W.cell? ⟨h1, j * 3, none⟩ = some (.int .i64 a1) ∧ W.cell? ⟨h1, j * 3 + 1, none⟩ = some (.int .i64 a2) ∧ W.cell? ⟨h1, j * 3 + 2, none⟩ = some (.bool a3)) ∧ W.cell? ⟨h2, j * 3, none⟩ = some (.int .i64 b1) ∧ W.cell? ⟨h2, j * 3 + 1, none⟩ = some (.int .i64 b2) ∧ W.cell? ⟨h2, j * 3 + 2, none⟩ = some (.bool b3)) := fun W hW => by
                  rw [HDD.out] at hW
                  exact ⟨bcell hW k1, bcell hW k2, ⟨bcell hW m0, bcell hW m1, bcell hW m2⟩, bcell hW n0, bcell hW n1, bcell hW n2⟩
                have HR0 : Hid (Below D wr wr.drew) := (Below.refl _ _).drew
                clear k1 k2 m0 m1 m2 n0 n1 n2
                refine region_tree (fun W => Below D wr W) (.two [0, 1, 2, 3, 4, 5, 6, 7, 8, 9, 10, 11, 12, 13] 14 (.one [] 15 (.one [] 16 (.one [] 17 .stop))) 15 (.one [] 14 (.one [] 16 (.one [] 17 .stop)))) (by kernel_rfl) (by intro dst v c a w h; cases dst <;> exact h) (by kernel_rfl) HR0.out ?_
                refine t_two ?_
                simp only [opsOf, List.getElem?_toArray, List.getElem?_cons_succ, List.getElem?_cons_zero]
                repeat (refine r_read ?_ (by kernel_rfl) ?_ (fun K hK => ?_); rotate_left 1; (intro W hR; obtain ⟨r1, r2, ⟨r3, r4, r5⟩, r6, r7, r8⟩ := HC0.out W hR; clear hR; go_simp; try with_reducible rfl); go_simp; refine hK _ ?_; clear hK K)
                refine t_nil2 ?_ ?_
                · refine r_op rfl (fun K hK => ?_)
                  go_simp
                  have HY1 : Hid (Below D wr (wr.alloc (.cells #[.int .i64 0, .int .i64 0, .bool false] 49)).drew) := ((Below.refl D wr).alloc (Nat.le_of_eq HDD.out) _).drew
                  have HX14 : Hid ((wr.alloc (.cells #[.int .i64 0, .int .i64 0, .bool false] 49)).drew.heap[wr.heap.size]? = some (.cells #[.int .i64 0, .int .i64 0, .bool false] 49 (0, 0))) := heap_alloc_last wr _
                  have HL14 : Hid (D ≤ wr.heap.size) := Nat.le_of_eq HDD.out
                  refine hK _ _ HY1.out ?_
                  clear hK K
                  generalize (wr.alloc (.cells #[.int .i64 0, .int .i64 0, .bool false] 49)).drew = y1 at HY1 HX14 ⊢
                  obtain ⟨b14, hb14⟩ : ∃ b, b = wr.heap.size := ⟨_, rfl⟩
                  rw [← hb14] at HX14 HL14 ⊢
                  clear hb14
                  refine t_one0 ?_
                  refine r_op rfl (fun K hK => ?_)
                  go_simp
                  have HY2 : Hid (Below D wr (y1.alloc (.cells #[.int .i64 0, .int .i64 0, .bool false] 49))) := HY1.out.alloc (Nat.le_trans (Nat.le_of_eq HDD.out) HY1.out.size) _
                  have HX15 : Hid ((y1.alloc (.cells #[.int .i64 0, .int .i64 0, .bool false] 49)).heap[y1.heap.size]? = some (.cells #[.int .i64 0, .int .i64 0, .bool false] 49 (0, 0))) := heap_alloc_last y1 _
                  have HL15 : Hid (D ≤ y1.heap.size) := Nat.le_trans (Nat.le_of_eq HDD.out) HY1.out.size
                  have HX14' := Lib.hid (at_alloc (o := .cells #[.int .i64 0, .int .i64 0, .bool false] 49) HX14.out)
                  have HD : Hid (b14 < y1.heap.size) := lt_of_block HX14.out
                  clear HX14
                  refine hK _ _ HY2.out ?_
                  clear hK K
                  generalize (y1.alloc (.cells #[.int .i64 0, .int .i64 0, .bool false] 49)) = y2 at HY2 HX15 HX14' ⊢
                  obtain ⟨b15, hb15⟩ : ∃ b, b = y1.heap.size := ⟨_, rfl⟩
                  rw [← hb15] at HX15 HL15 HD ⊢
                  clear hb15
                  have HX14 := HX14'
                  clear HX14'
                  have HNE : Hid (b14 ≠ b15) := Nat.ne_of_lt HD.out
                  clear HD
                  refine t_one0 ?_
                  refine r_op rfl (fun K hK => ?_)
                  have z0 := cell_at (j := 0) HX14.out rfl
                  have f0 : y2.frozen? ⟨b14, 0, none⟩ = false := frozen_of_row _ _ _ _ _ HX14.out
                  have z1 := cell_at (j := 1) HX14.out rfl
                  have f1 : y2.frozen? ⟨b14, 1, none⟩ = false := frozen_of_row _ _ _ _ _ HX14.out
                  have z2 := cell_at (j := 2) HX14.out rfl
                  have f2 : y2.frozen? ⟨b14, 2, none⟩ = false := frozen_of_row _ _ _ _ _ HX14.out
                  go_simp
                  have HY3 : Hid (Below D wr (((y2.setCell ⟨b14, 0, none⟩ (.int .i64 a1)).setCell ⟨b14, 1, none⟩ (.int .i64 a2)).setCell ⟨b14, 2, none⟩ (.bool a3))) := ((HY2.out.setCell (p := ⟨b14, 0, none⟩) HL14.out _).setCell (p := ⟨b14, 1, none⟩) HL14.out _).setCell (p := ⟨b14, 2, none⟩) HL14.out _
                  have HX14' : Hid ((((y2.setCell ⟨b14, 0, none⟩ (.int .i64 a1)).setCell ⟨b14, 1, none⟩ (.int .i64 a2)).setCell ⟨b14, 2, none⟩ (.bool a3)).heap[b14]? = some (.cells #[(.int .i64 a1), (.int .i64 a2), (.bool a3)] 49 (0, 0))) := heap_setCell_same _ _ _ _ _ _ (heap_setCell_same _ _ _ _ _ _ (heap_setCell_same _ _ _ _ _ _ HX14.out))
                  have HX15' : Hid ((((y2.setCell ⟨b14, 0, none⟩ (.int .i64 a1)).setCell ⟨b14, 1, none⟩ (.int .i64 a2)).setCell ⟨b14, 2, none⟩ (.bool a3)).heap[b15]? = some (.cells #[.int .i64 0, .int .i64 0, .bool false] 49 (0, 0))) := by
                    rw [heap_setCell_other _ _ _ _ (by exact HNE.out.symm), heap_setCell_other _ _ _ _ (by exact HNE.out.symm), heap_setCell_other _ _ _ _ (by exact HNE.out.symm)]
                    exact HX15.out
                  clear z0 z1 z2 f0 f1 f2 HX14 HX15
                  have HX14 := HX14'
                  have HX15 := HX15'
                  clear HX14' HX15'
                  refine hK _ _ HY3.out ?_
                  clear hK K
                  generalize (((y2.setCell ⟨b14, 0, none⟩ (.int .i64 a1)).setCell ⟨b14, 1, none⟩ (.int .i64 a2)).setCell ⟨b14, 2, none⟩ (.bool a3)) = y3 at HY3 HX14 HX15 ⊢
                  refine t_one0 ?_
                  refine r_op rfl (fun K hK => ?_)
                  have z0 := cell_at (j := 0) HX15.out rfl
                  have f0 : y3.frozen? ⟨b15, 0, none⟩ = false := frozen_of_row _ _ _ _ _ HX15.out
                  have z1 := cell_at (j := 1) HX15.out rfl
                  have f1 : y3.frozen? ⟨b15, 1, none⟩ = false := frozen_of_row _ _ _ _ _ HX15.out
                  have z2 := cell_at (j := 2) HX15.out rfl
                  have f2 : y3.frozen? ⟨b15, 2, none⟩ = false := frozen_of_row _ _ _ _ _ HX15.out
                  go_simp
                  have HY4 : Hid (Below D wr (((y3.setCell ⟨b15, 0, none⟩ (.int .i64 b1)).setCell ⟨b15, 1, none⟩ (.int .i64 b2)).setCell ⟨b15, 2, none⟩ (.bool b3))) := ((HY3.out.setCell (p := ⟨b15, 0, none⟩) HL15.out _).setCell (p := ⟨b15, 1, none⟩) HL15.out _).setCell (p := ⟨b15, 2, none⟩) HL15.out _
                  have HX15' : Hid ((((y3.setCell ⟨b15, 0, none⟩ (.int .i64 b1)).setCell ⟨b15, 1, none⟩ (.int .i64 b2)).setCell ⟨b15, 2, none⟩ (.bool b3)).heap[b15]? = some (.cells #[(.int .i64 b1), (.int .i64 b2), (.bool b3)] 49 (0, 0))) := heap_setCell_same _ _ _ _ _ _ (heap_setCell_same _ _ _ _ _ _ (heap_setCell_same _ _ _ _ _ _ HX15.out))
                  have HX14' : Hid ((((y3.setCell ⟨b15, 0, none⟩ (.int .i64 b1)).setCell ⟨b15, 1, none⟩ (.int .i64 b2)).setCell ⟨b15, 2, none⟩ (.bool b3)).heap[b14]? = some (.cells #[(.int .i64 a1), (.int .i64 a2), (.bool a3)] 49 (0, 0))) := by
                    rw [heap_setCell_other _ _ _ _ (by exact HNE.out), heap_setCell_other _ _ _ _ (by exact HNE.out), heap_setCell_other _ _ _ _ (by exact HNE.out)]
                    exact HX14.out
                  clear z0 z1 z2 f0 f1 f2 HX15 HX14
                  have HX15 := HX15'
                  have HX14 := HX14'
                  clear HX15' HX14'
                  refine hK _ _ HY4.out ?_
                  clear hK K
                  generalize (((y3.setCell ⟨b15, 0, none⟩ (.int .i64 b1)).setCell ⟨b15, 1, none⟩ (.int .i64 b2)).setCell ⟨b15, 2, none⟩ (.bool b3)) = y4 at HY4 HX15 HX14 ⊢
                  refine t_end ?_
                  go_wp2_with fail
                  go_meet
                  case rel => exact ⟨_, _, rfl, rfl, HX14.out, HX15.out, HB.out.trans (HY4.out.mono (by rw [HDD.out]; exact HB.out.size))⟩
                · refine r_op rfl (fun K hK => ?_)
                  go_simp
                  have HY1 : Hid (Below D wr (wr.alloc (.cells #[.int .i64 0, .int .i64 0, .bool false] 49)).drew) := ((Below.refl D wr).alloc (Nat.le_of_eq HDD.out) _).drew
                  have HX15 : Hid ((wr.alloc (.cells #[.int .i64 0, .int .i64 0, .bool false] 49)).drew.heap[wr.heap.size]? = some (.cells #[.int .i64 0, .int .i64 0, .bool false] 49 (0, 0))) := heap_alloc_last wr _
                  have HL15 : Hid (D ≤ wr.heap.size) := Nat.le_of_eq HDD.out
                  refine hK _ _ HY1.out ?_
                  clear hK K
                  generalize (wr.alloc (.cells #[.int .i64 0, .int .i64 0, .bool false] 49)).drew = y1 at HY1 HX15 ⊢
                  obtain ⟨b15, hb15⟩ : ∃ b, b = wr.heap.size := ⟨_, rfl⟩
                  rw [← hb15] at HX15 HL15 ⊢
                  clear hb15
                  refine t_one0 ?_
                  refine r_op rfl (fun K hK => ?_)
                  go_simp
                  have HY2 : Hid (Below D wr (y1.alloc (.cells #[.int .i64 0, .int .i64 0, .bool false] 49))) := HY1.out.alloc (Nat.le_trans (Nat.le_of_eq HDD.out) HY1.out.size) _
                  have HX14 : Hid ((y1.alloc (.cells #[.int .i64 0, .int .i64 0, .bool false] 49)).heap[y1.heap.size]? = some (.cells #[.int .i64 0, .int .i64 0, .bool false] 49 (0, 0))) := heap_alloc_last y1 _
                  have HL14 : Hid (D ≤ y1.heap.size) := Nat.le_trans (Nat.le_of_eq HDD.out) HY1.out.size
                  have HX15' := Lib.hid (at_alloc (o := .cells #[.int .i64 0, .int .i64 0, .bool false] 49) HX15.out)
                  have HD : Hid (b15 < y1.heap.size) := lt_of_block HX15.out
                  clear HX15
                  refine hK _ _ HY2.out ?_
                  clear hK K
                  generalize (y1.alloc (.cells #[.int .i64 0, .int .i64 0, .bool false] 49)) = y2 at HY2 HX14 HX15' ⊢
                  obtain ⟨b14, hb14⟩ : ∃ b, b = y1.heap.size := ⟨_, rfl⟩
                  rw [← hb14] at HX14 HL14 HD ⊢
                  clear hb14
                  have HX15 := HX15'
                  clear HX15'
                  have HNE : Hid (b15 ≠ b14) := Nat.ne_of_lt HD.out
                  clear HD
                  refine t_one0 ?_
                  refine r_op rfl (fun K hK => ?_)
                  have z0 := cell_at (j := 0) HX14.out rfl
                  have f0 : y2.frozen? ⟨b14, 0, none⟩ = false := frozen_of_row _ _ _ _ _ HX14.out
                  have z1 := cell_at (j := 1) HX14.out rfl
                  have f1 : y2.frozen? ⟨b14, 1, none⟩ = false := frozen_of_row _ _ _ _ _ HX14.out
                  have z2 := cell_at (j := 2) HX14.out rfl
                  have f2 : y2.frozen? ⟨b14, 2, none⟩ = false := frozen_of_row _ _ _ _ _ HX14.out
                  go_simp
                  have HY3 : Hid (Below D wr (((y2.setCell ⟨b14, 0, none⟩ (.int .i64 a1)).setCell ⟨b14, 1, none⟩ (.int .i64 a2)).setCell ⟨b14, 2, none⟩ (.bool a3))) := ((HY2.out.setCell (p := ⟨b14, 0, none⟩) HL14.out _).setCell (p := ⟨b14, 1, none⟩) HL14.out _).setCell (p := ⟨b14, 2, none⟩) HL14.out _
                  have HX14' : Hid ((((y2.setCell ⟨b14, 0, none⟩ (.int .i64 a1)).setCell ⟨b14, 1, none⟩ (.int .i64 a2)).setCell ⟨b14, 2, none⟩ (.bool a3)).heap[b14]? = some (.cells #[(.int .i64 a1), (.int .i64 a2), (.bool a3)] 49 (0, 0))) := heap_setCell_same _ _ _ _ _ _ (heap_setCell_same _ _ _ _ _ _ (heap_setCell_same _ _ _ _ _ _ HX14.out))
                  have HX15' : Hid ((((y2.setCell ⟨b14, 0, none⟩ (.int .i64 a1)).setCell ⟨b14, 1, none⟩ (.int .i64 a2)).setCell ⟨b14, 2, none⟩ (.bool a3)).heap[b15]? = some (.cells #[.int .i64 0, .int .i64 0, .bool false] 49 (0, 0))) := by
                    rw [heap_setCell_other _ _ _ _ (by exact HNE.out), heap_setCell_other _ _ _ _ (by exact HNE.out), heap_setCell_other _ _ _ _ (by exact HNE.out)]
                    exact HX15.out
                  clear z0 z1 z2 f0 f1 f2 HX14 HX15
                  have HX14 := HX14'
                  have HX15 := HX15'
                  clear HX14' HX15'
                  refine hK _ _ HY3.out ?_
                  clear hK K
                  generalize (((y2.setCell ⟨b14, 0, none⟩ (.int .i64 a1)).setCell ⟨b14, 1, none⟩ (.int .i64 a2)).setCell ⟨b14, 2, none⟩ (.bool a3)) = y3 at HY3 HX14 HX15 ⊢
                  refine t_one0 ?_
                  refine r_op rfl (fun K hK => ?_)
                  have z0 := cell_at (j := 0) HX15.out rfl
                  have f0 : y3.frozen? ⟨b15, 0, none⟩ = false := frozen_of_row _ _ _ _ _ HX15.out
                  have z1 := cell_at (j := 1) HX15.out rfl
                  have f1 : y3.frozen? ⟨b15, 1, none⟩ = false := frozen_of_row _ _ _ _ _ HX15.out
                  have z2 := cell_at (j := 2) HX15.out rfl
                  have f2 : y3.frozen? ⟨b15, 2, none⟩ = false := frozen_of_row _ _ _ _ _ HX15.out
                  go_simp
                  have HY4 : Hid (Below D wr (((y3.setCell ⟨b15, 0, none⟩ (.int .i64 b1)).setCell ⟨b15, 1, none⟩ (.int .i64 b2)).setCell ⟨b15, 2, none⟩ (.bool b3))) := ((HY3.out.setCell (p := ⟨b15, 0, none⟩) HL15.out _).setCell (p := ⟨b15, 1, none⟩) HL15.out _).setCell (p := ⟨b15, 2, none⟩) HL15.out _
                  have HX15' : Hid ((((y3.setCell ⟨b15, 0, none⟩ (.int .i64 b1)).setCell ⟨b15, 1, none⟩ (.int .i64 b2)).setCell ⟨b15, 2, none⟩ (.bool b3)).heap[b15]? = some (.cells #[(.int .i64 b1), (.int .i64 b2), (.bool b3)] 49 (0, 0))) := heap_setCell_same _ _ _ _ _ _ (heap_setCell_same _ _ _ _ _ _ (heap_setCell_same _ _ _ _ _ _ HX15.out))
                  have HX14' : Hid ((((y3.setCell ⟨b15, 0, none⟩ (.int .i64 b1)).setCell ⟨b15, 1, none⟩ (.int .i64 b2)).setCell ⟨b15, 2, none⟩ (.bool b3)).heap[b14]? = some (.cells #[(.int .i64 a1), (.int .i64 a2), (.bool a3)] 49 (0, 0))) := by
                    rw [heap_setCell_other _ _ _ _ (by exact HNE.out.symm), heap_setCell_other _ _ _ _ (by exact HNE.out.symm), heap_setCell_other _ _ _ _ (by exact HNE.out.symm)]
                    exact HX14.out
                  clear z0 z1 z2 f0 f1 f2 HX15 HX14
                  have HX15 := HX15'
                  have HX14 := HX14'
                  clear HX15' HX14'
                  refine hK _ _ HY4.out ?_
                  clear hK K
                  generalize (((y3.setCell ⟨b15, 0, none⟩ (.int .i64 b1)).setCell ⟨b15, 1, none⟩ (.int .i64 b2)).setCell ⟨b15, 2, none⟩ (.bool b3)) = y4 at HY4 HX15 HX14 ⊢
                  refine t_end ?_
                  go_wp2_with fail
                  go_meet
                  case rel => exact ⟨_, _, rfl, rfl, HX14.out, HX15.out, HB.out.trans (HY4.out.mono (by rw [HDD.out]; exact HB.out.size))⟩
              case rest =>
                obtain ⟨b14, b15, rfl, rfl, h14, h15, hbc⟩ := hcut
                obtain ⟨V, rfl⟩ : ∃ W : World, W = wc := ⟨_, rfl⟩
                have H14 := Lib.hid h14
                have H15 := Lib.hid h15
                have HBV := Lib.hid hbc
                have HXV : Hid (V.heap[b9]? = some (.cells #[.int .u8 (o : Int), .slice ka fl kc, .slice va fl vc] 46 (0, 0))) := below_at hbc HX5.out
                have HPV := Lib.hid (pt_reads (HP5.out.below hbc))
                have q0 := cell_at (j := 0) h14 rfl
                have q1 := cell_at (j := 1) h14 rfl
                have q2 := cell_at (j := 2) h14 rfl
                have r0 := cell_at (j := 0) h15 rfl
                have r1 := cell_at (j := 1) h15 rfl
                have r2 := cell_at (j := 2) h15 rfl
                have x1 := cell_at (j := 1) HXV.out rfl
                have x2 := cell_at (j := 2) HXV.out rfl
                have HIC : Hid (i < c) := hlt
                clear k1 k2 m0 m1 m2 n0 n1 n2 h14 h15 hbc HB
                obtain ⟨K, hK⟩ : ∃ K, K = A + i := ⟨_, rfl⟩
                obtain ⟨M1, hM1⟩ : ∃ M, M = A + j := ⟨_, rfl⟩
                have HKM : Hid (M1 = K + 1 ∧ M1 ≤ 100 ∧ M1 = A + j ∧ A ≤ fl ∧ fl ≤ 60) := by
                  have := HJI.out
                  have := HAL.out
                  have := HFL.out
                  have := HCL.out
                  show M1 = K + 1 ∧ M1 ≤ 100 ∧ M1 = A + j ∧ A ≤ fl ∧ fl ≤ 60
                  omega
                have hwa : IntKind.i64.wrap ((A : Int) + (j : Int)) = (M1 : Int) := by have := HKM.out; rw [IntKind.wrap_i64]; omega
                have hwb : IntKind.i64.wrap ((M1 : Int) - 1) = (K : Int) := by have := HKM.out; rw [IntKind.wrap_i64]; omega
                have hwc : (M1 : Int) - 1 = (K : Int) := by have := HKM.out; omega
                have hwd : IntKind.i64.wrap (K : Int) = (K : Int) := by have := HKM.out; rw [IntKind.wrap_i64]; omega
                have HK := Lib.hid hK
                clear hK hM1 hlt
                go_upto_region 22 with (fail)
                go_cut [162] from 131 to 162 (fun v wc => v = .bool false ∧ Below V.heap.size V wc)
                case first =>
                  by_cases hkl : K < fl
                  · have dk : decide ((K : Int) < (fl : Int)) = true := by simp; omega
                    have hk0 : (0 : Int) ≤ (K : Int) := by omega
                    have hk1 : (K : Int) < (fl : Int) := by omega
                    obtain ⟨⟨y1, y2⟩, hy⟩ : ∃ y, F[K]? = some y := ⟨_, List.getElem?_eq_getElem (by rw [← HFLL.out]; exact hkl)⟩
                    obtain ⟨g1, g2, rfl, rfl, p1, p2⟩ := HPV.out K _ hy
                    have e := HSA.out
                    rw [← HK.out, rd_t hy] at e
                    simp only [Prod.mk.injEq] at e p1 p2
                    obtain ⟨rfl, rfl, rfl⟩ := e
                    have dn1 : (a1 != a1) = false := by simp
                    have dn2 : (a2 != a2) = false := by simp
                    clear hy hkl
                    go_quiet (fail)
                    go_wp2_with fail
                    go_meet
                    case rel => exact ⟨rfl, ⟨rfl, rfl, rfl, Nat.le_refl _, fun _ _ => rfl⟩⟩
                  · have dk : decide ((K : Int) < (fl : Int)) = false := by simp; omega
                    have hkn : fl ≤ K := by omega
                    have e := HSA.out
                    rw [← HK.out, rd_f (by rw [← HFLL.out]; omega)] at e
                    simp only [Prod.mk.injEq] at e
                    obtain ⟨rfl, rfl, rfl⟩ := e
                    clear hkl
                    refine region_still (by kernel_rfl) (by kernel_rfl) (Veil.out ?_)
                    repeat (refine v_step (fun K hK => ?_); go_simp; refine hK _ ?_; clear hK K)
                    refine v_nil ⟨?_⟩
                    go_wp2_with fail
                    go_meet
                    case rel => exact ⟨by first | rfl | rw [decide_eq_false (Nat.not_lt.2 hkn)], ⟨rfl, rfl, rfl, Nat.le_refl _, fun _ _ => rfl⟩⟩
                case rest =>
                  obtain ⟨rfl, hbe⟩ := hcut
                  obtain ⟨U, rfl⟩ : ∃ W : World, W = wc := ⟨_, rfl⟩
                  replace r0 := bcell hbe r0
                  replace r1 := bcell hbe r1
                  replace r2 := bcell hbe r2
                  replace x1 := bcell hbe x1
                  replace x2 := bcell hbe x2
                  have HBU := Lib.hid (HBV.out.trans (hbe.mono HBV.out.size))
                  have HPU : Hid (∀ (i : Nat) (y : Int × Int), F[i]? = some y → ∃ g1 g2, ka = some ⟨g1, 0, none⟩ ∧ va = some ⟨g2, 0, none⟩ ∧ U.cell? ⟨g1, i, none⟩ = some (.int .i64 y.1) ∧ U.cell? ⟨g2, i, none⟩ = some (.int .i64 y.2)) := fun i y hy => by
                    obtain ⟨g1, g2, k1, k2, k3, k4⟩ := HPV.out i y hy
                    exact ⟨g1, g2, k1, k2, bcell hbe k3, bcell hbe k4⟩
                  obtain ⟨s1, hs1⟩ : ∃ z : Int, z = (A : Int) - (j : Int) := ⟨_, rfl⟩
                  obtain ⟨s2, hs2⟩ : ∃ z : Int, z = s1 + 1 := ⟨_, rfl⟩
                  have hva : IntKind.i64.wrap ((A : Int) - (j : Int)) = s1 := by have := HKM.out; rw [IntKind.wrap_i64]; omega
                  have hvb : IntKind.i64.wrap (s1 + 1) = s2 := by have := HKM.out; rw [IntKind.wrap_i64]; omega
                  have HZZ : Hid (s2 = (A : Int) - (i : Int)) := by have := HJI.out; show s2 = (A : Int) - (i : Int); omega
                  clear q0 q1 q2 hbe hwa hwb hwc hwd hs1 hs2 H14 H15 HPV
                  go_upto_region 25 with (fail)
                  go_cut [202] from 167 to 202 (fun v wc => v = .bool false ∧ Below U.heap.size U wc)
                  case first =>
                    by_cases ha : A < fl
                    · have da : decide ((A : Int) < (fl : Int)) = true := by simp; omega
                      by_cases hia : i ≤ A
                      · obtain ⟨K2, hK2⟩ : ∃ K, K = A - i := ⟨_, rfl⟩
                        obtain rfl : s2 = (K2 : Int) := by have := HZZ.out; omega
                        have dz : decide ((0 : Int) ≤ (K2 : Int)) = true := by simp
                        have hk0 : (0 : Int) ≤ (K2 : Int) := by omega
                        have hk1 : (K2 : Int) < (fl : Int) := by omega
                        obtain ⟨⟨y1, y2⟩, hy⟩ : ∃ y, F[K2]? = some y := ⟨_, List.getElem?_eq_getElem (by rw [← HFLL.out]; omega)⟩
                        obtain ⟨g1, g2, rfl, rfl, p1, p2⟩ := HPU.out K2 _ hy
                        have e := HSB.out
                        rw [if_pos ⟨ha, hia⟩, ← hK2, rd_t hy] at e
                        simp only [Prod.mk.injEq] at e p1 p2
                        obtain ⟨rfl, rfl, rfl⟩ := e
                        have dn1 : (b1 != b1) = false := by simp
                        have dn2 : (b2 != b2) = false := by simp
                        clear hy hK2 hia hva hvb
                        go_quiet (fail)
                        go_wp2_with fail
                        go_meet
                        case rel => exact ⟨rfl, ⟨rfl, rfl, rfl, Nat.le_refl _, fun _ _ => rfl⟩⟩
                      · have hsn : ¬ (0 : Int) ≤ s2 := by have := HZZ.out; omega
                        have dz : decide ((0 : Int) ≤ s2) = false := by simp; omega
                        have e := HSB.out
                        rw [if_neg (fun h => hia h.2)] at e
                        simp only [Prod.mk.injEq] at e
                        obtain ⟨rfl, rfl, rfl⟩ := e
                        clear hia hva hvb
                        refine region_still (by kernel_rfl) (by kernel_rfl) (Veil.out ?_)
                        repeat (refine v_step (fun K hK => ?_); go_simp; refine hK _ ?_; clear hK K)
                        refine v_nil ⟨?_⟩
                        go_wp2_with fail
                        go_meet
                        case rel => exact ⟨rfl, ⟨rfl, rfl, rfl, Nat.le_refl _, fun _ _ => rfl⟩⟩
                    · have da : decide ((A : Int) < (fl : Int)) = false := by simp; omega
                      have han : fl ≤ A := by omega
                      have e := HSB.out
                      rw [if_neg (fun h => ha h.1)] at e
                      simp only [Prod.mk.injEq] at e
                      obtain ⟨rfl, rfl, rfl⟩ := e
                      clear hva hvb
                      have han2 : ¬ (A : Int) < (fl : Int) := by omega
                      refine region_still (by kernel_rfl) (by kernel_rfl) (Veil.out ?_)
                      repeat (refine v_step (fun K hK => ?_); go_simp; refine hK _ ?_; clear hK K)
                      refine v_nil ⟨?_⟩
                      go_wp2_with fail
                      go_meet
                      case rel => exact ⟨rfl, ⟨rfl, rfl, rfl, Nat.le_refl _, fun _ _ => rfl⟩⟩
                  case rest =>
                    obtain ⟨rfl, hbf⟩ := hcut
                    have HBF := Lib.hid (HBU.out.trans (hbf.mono HBU.out.size))
                    have HIC2 := Lib.hid (And.intro HIC.out hik)
                    clear hbf r0 r1 r2 x1 x2 hva hvb
                    go_wp2_with fail
                    go_roundg (gk - 1)
                    case measure => have := HIC2.out; omega
                    case rel => exact ⟨i + 1, by have := HIC2.out; omega, by have h := HJI.out; first | (rw [h]; done) | (congr 1; omega), HBF.out⟩
            · have d3 : decide ((j : Int) < (C : Int)) = false := by have := HCL.out; simp; omega
              have HBX : Hid (Below B X wr) := HB7.out.trans (HB.out.mono (by have := HB7.out.size; have := HXB.out; omega))
              have HBG := Lib.hid (HB2.out.trans ((HB3.out.trans HBX.out).mono (by rw [HBB.out]; exact HB2.out.size)))
              obtain rfl : C = j := by have := HCL.out; omega
              clear HB hlt hw1 hj0
              go_wp2_with fail
              refine (awake_w wr).mono ?_
              rintro e wa ⟨rfl, hba⟩
              have HBA := Lib.hid (HBG.out.trans (hba.mono HBG.out.size))
              clear hba
              go_wp2_with fail
              refine bodyPost_ret (results_tmp rfl _ _ _) rfl ?_
              exact ⟨rfl, HBA.out⟩
theorem lseek_c (c : Int) (hc : 0 ≤ c) (u : Value) (xs : List Int) (key : Int) (w : World) (hu : RdN w u xs) : Calls Try.prog 6 #[.int .u8 c, u, .int .i64 key] w fun e w' => e = .returned (.bool true) ∧ Below w.heap.size w w' := by
  obtain ⟨o, rfl⟩ : ∃ o : Nat, c = (o : Int) := ⟨c.toNat, by omega⟩
  exact lseek_w o u xs key w hu
end Go.Proofs.Ytefigjdebakccaa
