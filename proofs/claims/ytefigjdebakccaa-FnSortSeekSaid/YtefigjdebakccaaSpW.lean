/- The reference: moves over pairs. -/
import Derived.Test.YtefigjdebakccaaSpcG
namespace Go.Proofs.Ytefigjdebakccaa
open Go.RowKit

/-- the place that a number says -/
def opt (n : Nat) (q : Int) : Option Nat := if 0 ≤ q ∧ q < n then some q.toNat else none
theorem opt_lo {n : Nat} {q : Int} (h : q < 0) : opt n q = none := if_neg (by omega)
theorem opt_hi {n : Nat} {q : Int} (h : (n : Int) ≤ q) : opt n q = none := if_neg (by omega)
theorem opt_in {n i : Nat} (h : i < n) : opt n (i : Int) = some i := by unfold opt; rw [if_pos (by omega)]; simp
theorem opt_pos (es : List (Int × Int)) (i : Nat) : opt es.length (i : Int) = pos es i := by
  by_cases h : i < es.length
  · rw [opt_in h, pos_some h]
  · rw [opt_hi (by omega)]; unfold pos; rw [if_neg h]
theorem opt_pre {n i : Nat} (h : i ≤ n) : opt n ((i : Int) - 1) = ppos i := by
  cases i with
  | zero => rw [opt_lo (by omega)]; rfl
  | succ i => rw [show ((i + 1 : Nat) : Int) - 1 = (i : Int) by omega, opt_in (by omega)]; rfl
theorem info68 : (Try.prog.info? 68).map (fun i => (i.zero, i.size, i.bytes)) = some (some (.agg #[.int .i64 0, .int .i64 0, .bool false]), 3, 24) := by kernel_rfl
/-- what a move tells is being made -/
def Rds (w : World) (H b8 : Nat) (sv : Value) (j : Nat) (cs : List Value) (x y z : Value) (W : World) : Prop :=
  Below H w W ∧ W.ownsRow H 68 3 sv j cs ∧ W.heap[b8]? = some (.cells #[x, y, z] 68 (0, 0)) ∧ H ≤ b8 ∧ (∀ k, sv.ownBlock = some k → k ≠ b8) ∧ H ≤ w.heap.size
section
variable {w W W' : World} {H b8 j : Nat} {sv x y z : Value} {cs : List Value}
theorem Rds.below (h : Rds w H b8 sv j cs x y z W) (hb : Below W.heap.size W W') : Rds w H b8 sv j cs x y z W' := by
  obtain ⟨h1, h2, h3, h4, h5, h6⟩ := h
  exact ⟨h1.trans (hb.mono (Nat.le_trans h6 h1.size)), own_below h2 hb, below_at hb h3, h4, h5, h6⟩
theorem Rds.f (h : Rds w H b8 sv j cs x y z W) (i : Nat) : W.frozen? ⟨b8, i, none⟩ = false := frozen_of_row _ _ _ _ _ h.2.2.1
theorem Rds.c0 (h : Rds w H b8 sv j cs x y z W) : W.cell? ⟨b8, 0, none⟩ = some x := cell_at h.2.2.1 rfl
theorem Rds.c1 (h : Rds w H b8 sv j cs x y z W) : W.cell? ⟨b8, 1, none⟩ = some y := cell_at h.2.2.1 rfl
theorem Rds.c2 (h : Rds w H b8 sv j cs x y z W) : W.cell? ⟨b8, 2, none⟩ = some z := cell_at h.2.2.1 rfl
theorem Rds.set (h : Rds w H b8 sv j cs x y z W) (i : Nat) (u : Value) {x' y' z' : Value} (hy : #[x, y, z].setIfInBounds i u = #[x', y', z']) : Rds w H b8 sv j cs x' y' z' (W.setCell ⟨b8, i, none⟩ u) := by
  obtain ⟨h1, h2, h3, h4, h5, h6⟩ := h
  refine ⟨h1.setCell h4 _, own_but h2 ((But.refl (· = b8) W).setCell (.inl rfl) u) fun k hk e => h5 k hk e, ?_, h4, h5, h6⟩
  rw [← hy]
  exact heap_setCell_same _ _ _ _ _ _ h3
end

set_option maxRecDepth 100000 in
set_option maxHeartbeats 3200000 in
theorem pwalk_w (o : Nat) (es : List (Int × Int)) (hs : Srt (ltO o) es) (hl : es.length < 1000000) (ms : List (Nat × Int)) (hm5 : ∀ m ∈ ms, m.1 ≤ 5) (hml : ms.length ≤ 100000) (mv pv : Value) (w : World) (hmv : MovesV w mv ms) (hp : PV w pv o es) :
    Calls Try.prog 31 #[pv, mv] w fun e w' => ∃ sv, e = .returned sv ∧ w'.ownsRow w.heap.size 68 3 sv ms.length (sncells (seens (ltO o) es (pos es 0) ms)) ∧ Below w.heap.size w w' := by
  obtain ⟨i68, hi, hz0, hz1, hz2⟩ := info_parts info68
  have HI := Lib.hid (And.intro hi (And.intro hz0 (And.intro hz1 hz2)))
  clear hi hz0 hz1 hz2
  obtain ⟨ka, kc, va, vc, rfl, hr⟩ := hp.reads
  have HPV := Lib.hid hp
  have HR := Lib.hid hr
  have HS := Lib.hid hs
  have HMV := Lib.hid hmv
  have HM5 := Lib.hid hm5
  obtain ⟨ma, mcap, rfl, -⟩ := hmv
  obtain ⟨N, hN⟩ : ∃ N, N = ms.length := ⟨_, rfl⟩
  rw [← hN] at hml ⊢
  have HN := Lib.hid hN
  obtain ⟨n, hn⟩ : ∃ n, n = es.length := ⟨_, rfl⟩
  rw [← hn] at hl HPV ⊢
  have HNE := Lib.hid hn
  obtain ⟨tot, htot⟩ : ∃ tot, tot = seens (ltO o) es (pos es 0) ms := ⟨_, rfl⟩
  rw [← htot]
  have HTOT := Lib.hid htot
  clear hp hr hs hm5 hN hn htot
  go_enter Try.func31, Try.ntmps31
  have HX : Hid ((w.alloc (.cells #[.int .u8 (o : Int), .slice ka n kc, .slice va n vc] 46)).heap[w.heap.size]? = some (.cells #[.int .u8 (o : Int), .slice ka n kc, .slice va n vc] 46 (0, 0))) := heap_alloc_last w _
  have x1 := cell_at (j := 1) HX.out rfl
  go_upto_region 1 with (fail)
  refine region_still (by kernel_rfl) (by kernel_rfl) (Veil.out ?_)
  repeat (refine v_step (fun K hK => ?_); go_simp; refine hK _ ?_; clear hK K)
  refine v_nil ⟨?_⟩
  have HBX : Hid (Below w.heap.size w (w.alloc (.cells #[.int .u8 (o : Int), .slice ka n kc, .slice va n vc] 46)).drew) := ((Below.refl _ _).alloc (Nat.le_refl _) _).drew
  have HX2 : Hid ((w.alloc (.cells #[.int .u8 (o : Int), .slice ka n kc, .slice va n vc] 46)).drew.heap[w.heap.size]? = some (.cells #[.int .u8 (o : Int), .slice ka n kc, .slice va n vc] 46 (0, 0))) := HX.out
  clear x1 HX
  generalize (w.alloc (.cells #[.int .u8 (o : Int), .slice ka n kc, .slice va n vc] 46)).drew = X at HX2 HBX ⊢
  obtain ⟨b2, hb2⟩ : ∃ b2, b2 = w.heap.size := ⟨_, rfl⟩
  rw [← hb2] at HX2 ⊢
  clear hb2
  go_wp2_with fail
  go_loopg [5, 7, 16] N (fun k v5 sv v16 wr => ∃ (outs : List Sn) (q : Int), k + outs.length = N ∧ v16 = .int .i64 (outs.length : Int) ∧ v5 = .int .i64 q ∧ -1 ≤ q ∧ q ≤ n ∧ tot = outs ++ seens (ltO o) es (opt n q) (ms.drop outs.length) ∧ wr.ownsRow X.heap.size 68 3 sv outs.length (sncells outs) ∧ Below X.heap.size X wr)
  case atStart => exact ⟨[], 0, rfl, rfl, rfl, by omega, by omega, by rw [HNE.out, show (0 : Int) = ((0 : Nat) : Int) from rfl, opt_pos]; exact HTOT.out, World.ownsRow_nil _ _ _ _, Below.refl _ _⟩
  case round =>
    obtain ⟨outs, q, hk2, rfl, rfl, hq1, hq2, htot, how, hb⟩ := hrel
    have HOW := Lib.hid how
    have HB := Lib.hid hb
    have HTO := Lib.hid htot
    clear how hb htot
    obtain ⟨j, hj⟩ : ∃ j, j = outs.length := ⟨_, rfl⟩
    rw [← hj] at hk2 HOW HTO ⊢
    have HJ := Lib.hid hj
    clear hj
    by_cases hlt : j < N
    · have h1 : decide ((j : Int) < (N : Int)) = true := by simp; omega
      have hw1 : IntKind.i64.wrap ((j : Int) + 1) = (j : Int) + 1 := by rw [IntKind.wrap_i64]; omega
      have hj0 : (0 : Int) ≤ (j : Int) := by omega
      have hj1 : (j : Int) < (N : Int) := by omega
      obtain ⟨m, hm⟩ : ∃ m, ms[j]? = some m := ⟨_, List.getElem?_eq_getElem (by rw [← HN.out]; exact hlt)⟩
      have HBW : Hid (Below w.heap.size w wr) := HBX.out.trans (HB.out.mono HBX.out.size)
      obtain ⟨a, cap, hv, hread⟩ := HMV.out.below HBW.out
      obtain ⟨g, qq, ha, c0, c1⟩ := hread j m hm
      simp only [Value.slice.injEq] at hv
      obtain ⟨hv1, -, -⟩ := hv
      have hma : ma = some ⟨g, qq, none⟩ := hv1.trans ha
      subst hma
      have HM := Lib.hid hm
      have hle5 := HM5.out m (List.mem_of_getElem? hm)
      obtain ⟨op, key⟩ := m
      clear hread hv1 ha hm
      go_upto_region 7 with (fail)
      have hbx : Below wr.heap.size wr ((wr.alloc (Obj.cells #[Value.int IntKind.u8 op, Value.int IntKind.i64 key] 44)).alloc (Obj.cells #[Value.int IntKind.i64 0, Value.int IntKind.i64 0, Value.bool false] 68)) := ((Below.refl _ _).alloc (Nat.le_refl _) _).alloc (by rw [size_alloc]; omega) _
      have hwb : X.heap.size ≤ wr.heap.size := HB.out.size
      have HX7 : Hid (((wr.alloc (Obj.cells #[Value.int IntKind.u8 op, Value.int IntKind.i64 key] 44)).alloc (Obj.cells #[Value.int IntKind.i64 0, Value.int IntKind.i64 0, Value.bool false] 68)).heap[wr.heap.size]? = some (.cells #[Value.int IntKind.u8 op, Value.int IntKind.i64 key] 44 (0, 0))) := at_alloc (heap_alloc_last wr _)
      have HG : Hid (Rds X X.heap.size (wr.heap.size + 1) u7 j (sncells outs) (.int .i64 0) (.int .i64 0) (.bool false) ((wr.alloc (Obj.cells #[Value.int IntKind.u8 op, Value.int IntKind.i64 key] 44)).alloc (Obj.cells #[Value.int IntKind.i64 0, Value.int IntKind.i64 0, Value.bool false] 68))) := by
        refine ⟨HB.out.trans (hbx.mono hwb), own_below HOW.out hbx, ?_, by omega, fun k hk e => ?_, Nat.le_refl _⟩
        · have h := heap_alloc_last (wr.alloc (Obj.cells #[Value.int IntKind.u8 op, Value.int IntKind.i64 key] 44)) (Obj.cells #[Value.int IntKind.i64 0, Value.int IntKind.i64 0, Value.bool false] 68)
          rw [size_alloc] at h
          exact h
        · have := (HOW.out.lt k hk).2
          omega
      generalize (wr.alloc (Obj.cells #[Value.int IntKind.u8 op, Value.int IntKind.i64 key] 44)).alloc (Obj.cells #[Value.int IntKind.i64 0, Value.int IntKind.i64 0, Value.bool false] 68) = Y at HX7 HG ⊢
      generalize wr.heap.size = b7 at HX7 HG ⊢
      obtain ⟨b8, hb8⟩ : ∃ b8, b8 = b7 + 1 := ⟨_, rfl⟩
      rw [← hb8] at HG ⊢
      clear hb8 hbx hwb c0 c1 HOW HB HBW
      have y0 := cell_at (j := 0) HX7.out rfl
      have y1 := cell_at (j := 1) HX7.out rfl
      have HXY := Lib.hid (below_at HG.out.1 HX2.out)
      have z0 := cell_at (j := 0) HXY.out rfl
      have z1 := cell_at (j := 1) HXY.out rfl
      have z2 := cell_at (j := 2) HXY.out rfl
      have HWY : Hid (Below w.heap.size w Y) := HBX.out.trans (HG.out.1.mono HBX.out.size)
      have HOP : op = 0 ∨ op = 1 ∨ op = 4 ∨ op = 5 ∨ op = 2 ∨ op = 3 := by have : op ≤ 5 := hle5; omega
      clear hle5 hlt
      rcases HOP with rfl | rfl | rfl | rfl | rfl | rfl
      · have HSN : Hid (mvSeen es (opt n q) (0, key) = (0, 0, false)) := rfl
        have HPN : Hid (mvPos (ltO o) es (opt n q) (0, key) = opt n (0)) := by rw [HNE.out, show (0 : Int) = ((0 : Nat) : Int) from rfl, opt_pos]; rfl
        have e0 := HG.out.c0
        have e1 := HG.out.c1
        have e2 := HG.out.c2
        go_wp2_with (at_builtin; refine wpList_append_own _ rfl (.tmp 70) (.tmp 72) 61 rfl X.heap.size 68 i68 (.agg #[.int .i64 0, .int .i64 0, .bool false]) 3 24 Try.underlying61 HI.out.1 HI.out.2.1 HI.out.2.2.1 HI.out.2.2.2 rfl (by decide) _ _ _ rfl (HG.out.2.1.alloc _) ⟨Y.heap.size, 0, none⟩ 1 1 [.int .i64 (0), .int .i64 (0), .bool (false)] rfl rfl (three_new _ _ _ _ _) (sn_one _ _ _) (by unfold maxLen; omega) (by omega) (by have := HG.out.1.size; rw [size_alloc]; omega) ?_)
        intro v4 w4 hown4 hgrow4 _
        have hwz : X.heap.size ≤ Y.heap.size := HG.out.1.size
        have HB4 := Lib.hid (HG.out.1.trans (below_grown ((Below.refl X.heap.size Y).alloc hwz (.cells #[.int .i64 (0), .int .i64 (0), .bool (false)] 68)) HG.out.2.1 (Nat.le_refl _) hwz hgrow4))
        have HO4 := Lib.hid hown4
        clear hown4 hgrow4 e0 e1 e2
        go_wp2_with fail
        go_roundg (gk - 1)
        case measure => omega
        case rel =>
          have hj := HJ.out
          refine ⟨outs ++ [(0, 0, false)], 0, ?_, ?_, rfl, by omega, by omega, ?_, ?_, HB4.out⟩
          · rw [List.length_append, List.length_singleton]; omega
          · rw [List.length_append, List.length_singleton, ← hj]; rfl
          · rw [HTO.out, seens_step HM.out, HSN.out, HPN.out, List.length_append, List.length_singleton, ← hj, List.append_assoc]; rfl
          · rw [List.length_append, List.length_singleton, ← hj, sncells_append]; exact HO4.out
      · obtain ⟨q1, hq⟩ : ∃ q1 : Int, q1 = (n : Int) - 1 := ⟨_, rfl⟩
        have hwq : IntKind.i64.wrap ((n : Int) - 1) = q1 := by rw [IntKind.wrap_i64]; omega
        have hwq2 : (n : Int) - 1 = q1 := hq.symm
        have hwq3 : IntKind.i64.wrap q1 = q1 := by rw [IntKind.wrap_i64]; omega
        have HQ := Lib.hid hq
        clear hq
        have HSN : Hid (mvSeen es (opt n q) (1, key) = (0, 0, false)) := rfl
        have HPN : Hid (mvPos (ltO o) es (opt n q) (1, key) = opt n (q1)) := by rw [HQ.out, HNE.out, opt_pre (Nat.le_refl _)]; rfl
        have e0 := HG.out.c0
        have e1 := HG.out.c1
        have e2 := HG.out.c2
        go_wp2_with (at_builtin; refine wpList_append_own _ rfl (.tmp 70) (.tmp 72) 61 rfl X.heap.size 68 i68 (.agg #[.int .i64 0, .int .i64 0, .bool false]) 3 24 Try.underlying61 HI.out.1 HI.out.2.1 HI.out.2.2.1 HI.out.2.2.2 rfl (by decide) _ _ _ rfl (HG.out.2.1.alloc _) ⟨Y.heap.size, 0, none⟩ 1 1 [.int .i64 (0), .int .i64 (0), .bool (false)] rfl rfl (three_new _ _ _ _ _) (sn_one _ _ _) (by unfold maxLen; omega) (by omega) (by have := HG.out.1.size; rw [size_alloc]; omega) ?_)
        intro v4 w4 hown4 hgrow4 _
        have hwz : X.heap.size ≤ Y.heap.size := HG.out.1.size
        have HB4 := Lib.hid (HG.out.1.trans (below_grown ((Below.refl X.heap.size Y).alloc hwz (.cells #[.int .i64 (0), .int .i64 (0), .bool (false)] 68)) HG.out.2.1 (Nat.le_refl _) hwz hgrow4))
        have HO4 := Lib.hid hown4
        clear hown4 hgrow4 e0 e1 e2
        go_wp2_with fail
        go_roundg (gk - 1)
        case measure => omega
        case rel =>
          have hj := HJ.out
          have hq := HQ.out
          refine ⟨outs ++ [(0, 0, false)], q1, ?_, ?_, rfl, by omega, by omega, ?_, ?_, HB4.out⟩
          · rw [List.length_append, List.length_singleton]; omega
          · rw [List.length_append, List.length_singleton, ← hj]; rfl
          · rw [HTO.out, seens_step HM.out, HSN.out, HPN.out, List.length_append, List.length_singleton, ← hj, List.append_assoc]; rfl
          · rw [List.length_append, List.length_singleton, ← hj, sncells_append]; exact HO4.out
      · have hpY : PV Y (.agg #[.int .u8 (o : Int), .slice ka n kc, .slice va n vc]) o es := by
          obtain ⟨kv, vv, h1, h2, h3⟩ := HPV.out
          exact ⟨kv, vv, h1, h2.kb (by decide) (KB.of_below 0 HWY.out), h3.kb (by decide) (KB.of_below 0 HWY.out)⟩
        have HPY := Lib.hid hpY
        clear hpY
        obtain ⟨at1, hat⟩ : ∃ a, a = at_ (ltO o) es key := ⟨_, rfl⟩
        have hat2 : at1 ≤ n := by rw [hat, HNE.out]; exact at_le _ _
        have HFR := Lib.hid (pfrom_w o key es HS.out (by rw [← HNE.out]; omega) _ Y HPY.out)
        rw [← hat] at HFR
        have HAT := Lib.hid hat
        clear hat
        go_wp2_with fail
        refine HFR.out.mono ?_
        rintro e w2 ⟨rfl, hb2⟩
        have HG2 := Lib.hid (HG.out.below hb2)
        clear hb2 HG HX7 HXY HWY HPY HFR y0 y1 z0 z1 z2
        have HSN : Hid (mvSeen es (opt n q) (4, key) = (0, 0, false)) := rfl
        have HPN : Hid (mvPos (ltO o) es (opt n q) (4, key) = opt n ((at1 : Int))) := by rw [HNE.out, opt_pos, HAT.out]; rfl
        have e0 := HG2.out.c0
        have e1 := HG2.out.c1
        have e2 := HG2.out.c2
        go_wp2_with (at_builtin; refine wpList_append_own _ rfl (.tmp 70) (.tmp 72) 61 rfl X.heap.size 68 i68 (.agg #[.int .i64 0, .int .i64 0, .bool false]) 3 24 Try.underlying61 HI.out.1 HI.out.2.1 HI.out.2.2.1 HI.out.2.2.2 rfl (by decide) _ _ _ rfl (HG2.out.2.1.alloc _) ⟨w2.heap.size, 0, none⟩ 1 1 [.int .i64 (0), .int .i64 (0), .bool (false)] rfl rfl (three_new _ _ _ _ _) (sn_one _ _ _) (by unfold maxLen; omega) (by omega) (by have := HG2.out.1.size; rw [size_alloc]; omega) ?_)
        intro v4 w4 hown4 hgrow4 _
        have hwz : X.heap.size ≤ w2.heap.size := HG2.out.1.size
        have HB4 := Lib.hid (HG2.out.1.trans (below_grown ((Below.refl X.heap.size w2).alloc hwz (.cells #[.int .i64 (0), .int .i64 (0), .bool (false)] 68)) HG2.out.2.1 (Nat.le_refl _) hwz hgrow4))
        have HO4 := Lib.hid hown4
        clear hown4 hgrow4 e0 e1 e2
        go_wp2_with fail
        go_roundg (gk - 1)
        case measure => omega
        case rel =>
          have hj := HJ.out
          refine ⟨outs ++ [(0, 0, false)], (at1 : Int), ?_, ?_, rfl, by omega, by omega, ?_, ?_, HB4.out⟩
          · rw [List.length_append, List.length_singleton]; omega
          · rw [List.length_append, List.length_singleton, ← hj]; rfl
          · rw [HTO.out, seens_step HM.out, HSN.out, HPN.out, List.length_append, List.length_singleton, ← hj, List.append_assoc]; rfl
          · rw [List.length_append, List.length_singleton, ← hj, sncells_append]; exact HO4.out
      · rcases (show q < 0 ∨ (n : Int) ≤ q ∨ (0 ≤ q ∧ q < n) by omega) with hq | hq | hq
        · have d1 : decide (q < 0) = true := by simp; omega
          have f2 := HG.out.f 2
          have q2 := HG.out.c2
          go_upto_region 21 with (fail)
          have HG2 := Lib.hid (HG.out.set 2 (.bool true) (x' := .int .i64 0) (y' := .int .i64 0) (z' := .bool true) rfl)
          clear f2 q2 HG HX7 HXY HWY y0 y1 z0 z1 z2
          generalize Y.setCell ⟨b8, 2, none⟩ (.bool true) = Z at HG2 ⊢
          have HSN : Hid (mvSeen es (opt n q) (5, key) = (0, 0, true)) := by rw [opt_lo hq]; rfl
          have HPN : Hid (mvPos (ltO o) es (opt n q) (5, key) = opt n (q)) := rfl
          have e0 := HG2.out.c0
          have e1 := HG2.out.c1
          have e2 := HG2.out.c2
          go_wp2_with (at_builtin; refine wpList_append_own _ rfl (.tmp 70) (.tmp 72) 61 rfl X.heap.size 68 i68 (.agg #[.int .i64 0, .int .i64 0, .bool false]) 3 24 Try.underlying61 HI.out.1 HI.out.2.1 HI.out.2.2.1 HI.out.2.2.2 rfl (by decide) _ _ _ rfl (HG2.out.2.1.alloc _) ⟨Z.heap.size, 0, none⟩ 1 1 [.int .i64 (0), .int .i64 (0), .bool (true)] rfl rfl (three_new _ _ _ _ _) (sn_one _ _ _) (by unfold maxLen; omega) (by omega) (by have := HG2.out.1.size; rw [size_alloc]; omega) ?_)
          intro v4 w4 hown4 hgrow4 _
          have hwz : X.heap.size ≤ Z.heap.size := HG2.out.1.size
          have HB4 := Lib.hid (HG2.out.1.trans (below_grown ((Below.refl X.heap.size Z).alloc hwz (.cells #[.int .i64 (0), .int .i64 (0), .bool (true)] 68)) HG2.out.2.1 (Nat.le_refl _) hwz hgrow4))
          have HO4 := Lib.hid hown4
          clear hown4 hgrow4 e0 e1 e2
          go_wp2_with fail
          go_roundg (gk - 1)
          case measure => omega
          case rel =>
            have hj := HJ.out
            refine ⟨outs ++ [(0, 0, true)], q, ?_, ?_, rfl, by omega, by omega, ?_, ?_, HB4.out⟩
            · rw [List.length_append, List.length_singleton]; omega
            · rw [List.length_append, List.length_singleton, ← hj]; rfl
            · rw [HTO.out, seens_step HM.out, HSN.out, HPN.out, List.length_append, List.length_singleton, ← hj, List.append_assoc]; rfl
            · rw [List.length_append, List.length_singleton, ← hj, sncells_append]; exact HO4.out
        · have d1 : decide (q < 0) = false := by simp; omega
          have d2 : decide ((n : Int) ≤ q) = true := by simp; omega
          have f2 := HG.out.f 2
          have q2 := HG.out.c2
          go_upto_region 21 with (fail)
          have HG2 := Lib.hid (HG.out.set 2 (.bool true) (x' := .int .i64 0) (y' := .int .i64 0) (z' := .bool true) rfl)
          clear f2 q2 HG HX7 HXY HWY y0 y1 z0 z1 z2
          generalize Y.setCell ⟨b8, 2, none⟩ (.bool true) = Z at HG2 ⊢
          have HSN : Hid (mvSeen es (opt n q) (5, key) = (0, 0, true)) := by rw [opt_hi hq]; rfl
          have HPN : Hid (mvPos (ltO o) es (opt n q) (5, key) = opt n (q)) := rfl
          have e0 := HG2.out.c0
          have e1 := HG2.out.c1
          have e2 := HG2.out.c2
          go_wp2_with (at_builtin; refine wpList_append_own _ rfl (.tmp 70) (.tmp 72) 61 rfl X.heap.size 68 i68 (.agg #[.int .i64 0, .int .i64 0, .bool false]) 3 24 Try.underlying61 HI.out.1 HI.out.2.1 HI.out.2.2.1 HI.out.2.2.2 rfl (by decide) _ _ _ rfl (HG2.out.2.1.alloc _) ⟨Z.heap.size, 0, none⟩ 1 1 [.int .i64 (0), .int .i64 (0), .bool (true)] rfl rfl (three_new _ _ _ _ _) (sn_one _ _ _) (by unfold maxLen; omega) (by omega) (by have := HG2.out.1.size; rw [size_alloc]; omega) ?_)
          intro v4 w4 hown4 hgrow4 _
          have hwz : X.heap.size ≤ Z.heap.size := HG2.out.1.size
          have HB4 := Lib.hid (HG2.out.1.trans (below_grown ((Below.refl X.heap.size Z).alloc hwz (.cells #[.int .i64 (0), .int .i64 (0), .bool (true)] 68)) HG2.out.2.1 (Nat.le_refl _) hwz hgrow4))
          have HO4 := Lib.hid hown4
          clear hown4 hgrow4 e0 e1 e2
          go_wp2_with fail
          go_roundg (gk - 1)
          case measure => omega
          case rel =>
            have hj := HJ.out
            refine ⟨outs ++ [(0, 0, true)], q, ?_, ?_, rfl, by omega, by omega, ?_, ?_, HB4.out⟩
            · rw [List.length_append, List.length_singleton]; omega
            · rw [List.length_append, List.length_singleton, ← hj]; rfl
            · rw [HTO.out, seens_step HM.out, HSN.out, HPN.out, List.length_append, List.length_singleton, ← hj, List.append_assoc]; rfl
            · rw [List.length_append, List.length_singleton, ← hj, sncells_append]; exact HO4.out
        · have d1 : decide (q < 0) = false := by simp; omega
          have d2 : decide ((n : Int) ≤ q) = false := by simp; omega
          have f2 := HG.out.f 2
          have q2 := HG.out.c2
          go_upto_region 21 with (fail)
          have HG2 := Lib.hid (HG.out.set 2 (.bool false) (x' := .int .i64 0) (y' := .int .i64 0) (z' := .bool false) rfl)
          clear f2 q2 HG HX7 HXY HWY y0 y1 z0 z1 z2
          generalize Y.setCell ⟨b8, 2, none⟩ (.bool false) = Z at HG2 ⊢
          have HSN : Hid (mvSeen es (opt n q) (5, key) = (0, 0, false)) := by obtain ⟨i, rfl⟩ : ∃ i : Nat, q = i := ⟨q.toNat, by omega⟩; rw [opt_in (by omega)]; rfl
          have HPN : Hid (mvPos (ltO o) es (opt n q) (5, key) = opt n (q)) := rfl
          have e0 := HG2.out.c0
          have e1 := HG2.out.c1
          have e2 := HG2.out.c2
          go_wp2_with (at_builtin; refine wpList_append_own _ rfl (.tmp 70) (.tmp 72) 61 rfl X.heap.size 68 i68 (.agg #[.int .i64 0, .int .i64 0, .bool false]) 3 24 Try.underlying61 HI.out.1 HI.out.2.1 HI.out.2.2.1 HI.out.2.2.2 rfl (by decide) _ _ _ rfl (HG2.out.2.1.alloc _) ⟨Z.heap.size, 0, none⟩ 1 1 [.int .i64 (0), .int .i64 (0), .bool (false)] rfl rfl (three_new _ _ _ _ _) (sn_one _ _ _) (by unfold maxLen; omega) (by omega) (by have := HG2.out.1.size; rw [size_alloc]; omega) ?_)
          intro v4 w4 hown4 hgrow4 _
          have hwz : X.heap.size ≤ Z.heap.size := HG2.out.1.size
          have HB4 := Lib.hid (HG2.out.1.trans (below_grown ((Below.refl X.heap.size Z).alloc hwz (.cells #[.int .i64 (0), .int .i64 (0), .bool (false)] 68)) HG2.out.2.1 (Nat.le_refl _) hwz hgrow4))
          have HO4 := Lib.hid hown4
          clear hown4 hgrow4 e0 e1 e2
          go_wp2_with fail
          go_roundg (gk - 1)
          case measure => omega
          case rel =>
            have hj := HJ.out
            refine ⟨outs ++ [(0, 0, false)], q, ?_, ?_, rfl, by omega, by omega, ?_, ?_, HB4.out⟩
            · rw [List.length_append, List.length_singleton]; omega
            · rw [List.length_append, List.length_singleton, ← hj]; rfl
            · rw [HTO.out, seens_step HM.out, HSN.out, HPN.out, List.length_append, List.length_singleton, ← hj, List.append_assoc]; rfl
            · rw [List.length_append, List.length_singleton, ← hj, sncells_append]; exact HO4.out
      · rcases (show q < 0 ∨ (n : Int) ≤ q ∨ (0 ≤ q ∧ q < n) by omega) with hq | hq | hq
        · have d1 : decide (q < 0) = true := by simp; omega
          have HSN : Hid (mvSeen es (opt n q) (2, key) = (0, 0, false)) := by rw [opt_lo hq]; rfl
          have HPN : Hid (mvPos (ltO o) es (opt n q) (2, key) = opt n (q)) := by rw [opt_lo hq]; rfl
          have e0 := HG.out.c0
          have e1 := HG.out.c1
          have e2 := HG.out.c2
          go_wp2_with (at_builtin; refine wpList_append_own _ rfl (.tmp 70) (.tmp 72) 61 rfl X.heap.size 68 i68 (.agg #[.int .i64 0, .int .i64 0, .bool false]) 3 24 Try.underlying61 HI.out.1 HI.out.2.1 HI.out.2.2.1 HI.out.2.2.2 rfl (by decide) _ _ _ rfl (HG.out.2.1.alloc _) ⟨Y.heap.size, 0, none⟩ 1 1 [.int .i64 (0), .int .i64 (0), .bool (false)] rfl rfl (three_new _ _ _ _ _) (sn_one _ _ _) (by unfold maxLen; omega) (by omega) (by have := HG.out.1.size; rw [size_alloc]; omega) ?_)
          intro v4 w4 hown4 hgrow4 _
          have hwz : X.heap.size ≤ Y.heap.size := HG.out.1.size
          have HB4 := Lib.hid (HG.out.1.trans (below_grown ((Below.refl X.heap.size Y).alloc hwz (.cells #[.int .i64 (0), .int .i64 (0), .bool (false)] 68)) HG.out.2.1 (Nat.le_refl _) hwz hgrow4))
          have HO4 := Lib.hid hown4
          clear hown4 hgrow4 e0 e1 e2
          go_wp2_with fail
          go_roundg (gk - 1)
          case measure => omega
          case rel =>
            have hj := HJ.out
            refine ⟨outs ++ [(0, 0, false)], q, ?_, ?_, rfl, by omega, by omega, ?_, ?_, HB4.out⟩
            · rw [List.length_append, List.length_singleton]; omega
            · rw [List.length_append, List.length_singleton, ← hj]; rfl
            · rw [HTO.out, seens_step HM.out, HSN.out, HPN.out, List.length_append, List.length_singleton, ← hj, List.append_assoc]; rfl
            · rw [List.length_append, List.length_singleton, ← hj, sncells_append]; exact HO4.out
        · have d1 : decide (q < 0) = false := by simp; omega
          have d2 : decide ((n : Int) ≤ q) = true := by simp; omega
          have HSN : Hid (mvSeen es (opt n q) (2, key) = (0, 0, false)) := by rw [opt_hi hq]; rfl
          have HPN : Hid (mvPos (ltO o) es (opt n q) (2, key) = opt n (q)) := by rw [opt_hi hq]; rfl
          have e0 := HG.out.c0
          have e1 := HG.out.c1
          have e2 := HG.out.c2
          go_wp2_with (at_builtin; refine wpList_append_own _ rfl (.tmp 70) (.tmp 72) 61 rfl X.heap.size 68 i68 (.agg #[.int .i64 0, .int .i64 0, .bool false]) 3 24 Try.underlying61 HI.out.1 HI.out.2.1 HI.out.2.2.1 HI.out.2.2.2 rfl (by decide) _ _ _ rfl (HG.out.2.1.alloc _) ⟨Y.heap.size, 0, none⟩ 1 1 [.int .i64 (0), .int .i64 (0), .bool (false)] rfl rfl (three_new _ _ _ _ _) (sn_one _ _ _) (by unfold maxLen; omega) (by omega) (by have := HG.out.1.size; rw [size_alloc]; omega) ?_)
          intro v4 w4 hown4 hgrow4 _
          have hwz : X.heap.size ≤ Y.heap.size := HG.out.1.size
          have HB4 := Lib.hid (HG.out.1.trans (below_grown ((Below.refl X.heap.size Y).alloc hwz (.cells #[.int .i64 (0), .int .i64 (0), .bool (false)] 68)) HG.out.2.1 (Nat.le_refl _) hwz hgrow4))
          have HO4 := Lib.hid hown4
          clear hown4 hgrow4 e0 e1 e2
          go_wp2_with fail
          go_roundg (gk - 1)
          case measure => omega
          case rel =>
            have hj := HJ.out
            refine ⟨outs ++ [(0, 0, false)], q, ?_, ?_, rfl, by omega, by omega, ?_, ?_, HB4.out⟩
            · rw [List.length_append, List.length_singleton]; omega
            · rw [List.length_append, List.length_singleton, ← hj]; rfl
            · rw [HTO.out, seens_step HM.out, HSN.out, HPN.out, List.length_append, List.length_singleton, ← hj, List.append_assoc]; rfl
            · rw [List.length_append, List.length_singleton, ← hj, sncells_append]; exact HO4.out
        · obtain ⟨i, rfl⟩ : ∃ i : Nat, q = i := ⟨q.toNat, by omega⟩
          have d1 : decide ((i : Int) < 0) = false := by simp
          have d2 : decide ((n : Int) ≤ (i : Int)) = false := by simp; omega
          have d3 : ¬ n ≤ i := by omega
          have hi0 : (0 : Int) ≤ (i : Int) := by omega
          have hi1 : (i : Int) < (n : Int) := by omega
          obtain ⟨y, hy⟩ : ∃ y, es[i]? = some y := ⟨_, List.getElem?_eq_getElem (by rw [← HNE.out]; omega)⟩
          obtain ⟨⟨gk1, hg1, hc1⟩, gv1, hg2, hc2⟩ := HR.out.below HWY.out i y hy
          subst hg1 hg2
          have HY := Lib.hid hy
          obtain ⟨yk, yv⟩ := y
          have f0 := HG.out.f 0
          have f1 := HG.out.f 1
          have f2 := HG.out.f 2
          have q0 := HG.out.c0
          have q1 := HG.out.c1
          have q2 := HG.out.c2
          obtain ⟨q9, hq9⟩ : ∃ q9 : Int, q9 = (i : Int) + 1 := ⟨_, rfl⟩
          have hwq : IntKind.i64.wrap ((i : Int) + 1) = q9 := by rw [IntKind.wrap_i64]; omega
          have hwq2 : (i : Int) + 1 = q9 := hq9.symm
          have hwq3 : IntKind.i64.wrap q9 = q9 := by rw [IntKind.wrap_i64]; omega
          have HQ := Lib.hid hq9
          clear hy hq9
          go_upto_region 9 with (fail)
          refine region_tail 11 (by kernel_rfl) (by kernel_rfl) ?_
          simp only [List.take_succ_cons, List.take_zero, List.drop_succ_cons, List.drop_zero]
          repeat still_step
          refine wpStill_nil ?_
          go_upto_region 10 with (fail)
          have HG2 : Hid (Rds X X.heap.size b8 u7 j (sncells outs) (.int .i64 yk) (.int .i64 yv) (.bool true) (((Y.setCell ⟨b8, 0, none⟩ (.int .i64 yk)).setCell ⟨b8, 1, none⟩ (.int .i64 yv)).setCell ⟨b8, 2, none⟩ (.bool true)).drew) :=
            (((HG.out.set 0 (.int .i64 yk) (x' := .int .i64 yk) (y' := .int .i64 0) (z' := .bool false) rfl).set 1 (.int .i64 yv) (x' := .int .i64 yk) (y' := .int .i64 yv) (z' := .bool false) rfl).set 2 (.bool true) (x' := .int .i64 yk) (y' := .int .i64 yv) (z' := .bool true) rfl).below (Below.refl _ _).drew
          have HX8 : Hid ((((Y.setCell ⟨b8, 0, none⟩ (.int .i64 yk)).setCell ⟨b8, 1, none⟩ (.int .i64 yv)).setCell ⟨b8, 2, none⟩ (.bool true)).drew.heap[b7]? = some (.cells #[Value.int IntKind.u8 2, Value.int IntKind.i64 key] 44 (0, 0))) := by
            have h := KB.trans (KB.trans (KB.set (i := 0) HG.out.2.2.1 (.int .i64 yk)) (KB.set (i := 1) (HG.out.set 0 (.int .i64 yk) (x' := .int .i64 yk) (y' := .int .i64 0) (z' := .bool false) rfl).2.2.1 (.int .i64 yv))) (KB.set (i := 2) ((HG.out.set 0 (.int .i64 yk) (x' := .int .i64 yk) (y' := .int .i64 0) (z' := .bool false) rfl).set 1 (.int .i64 yv) (x' := .int .i64 yk) (y' := .int .i64 yv) (z' := .bool false) rfl).2.2.1 (.bool true))
            exact h b7 _ 44 HX7.out (by decide)
          clear f0 f1 f2 q0 q1 q2 HG HX7 HXY HWY y0 y1 z0 z1 z2 hc1 hc2
          generalize (((Y.setCell ⟨b8, 0, none⟩ (.int .i64 yk)).setCell ⟨b8, 1, none⟩ (.int .i64 yv)).setCell ⟨b8, 2, none⟩ (.bool true)).drew = Z at HG2 HX8 ⊢
          have y0 := cell_at (j := 0) HX8.out rfl
          have HSN : Hid (mvSeen es (opt n (i : Int)) (2, key) = (yk, yv, true)) := by rw [opt_in (by omega)]; show (match es[i]? with | some y => (y.1, y.2, true) | none => (0, 0, false)) = _; rw [HY.out]
          have HPN : Hid (mvPos (ltO o) es (opt n (i : Int)) (2, key) = opt n (q9)) := by rw [HQ.out, opt_in (by omega), show (i : Int) + 1 = ((i + 1 : Nat) : Int) by omega, HNE.out, opt_pos]; rfl
          have e0 := HG2.out.c0
          have e1 := HG2.out.c1
          have e2 := HG2.out.c2
          go_wp2_with (at_builtin; refine wpList_append_own _ rfl (.tmp 70) (.tmp 72) 61 rfl X.heap.size 68 i68 (.agg #[.int .i64 0, .int .i64 0, .bool false]) 3 24 Try.underlying61 HI.out.1 HI.out.2.1 HI.out.2.2.1 HI.out.2.2.2 rfl (by decide) _ _ _ rfl (HG2.out.2.1.alloc _) ⟨Z.heap.size, 0, none⟩ 1 1 [.int .i64 (yk), .int .i64 (yv), .bool (true)] rfl rfl (three_new _ _ _ _ _) (sn_one _ _ _) (by unfold maxLen; omega) (by omega) (by have := HG2.out.1.size; rw [size_alloc]; omega) ?_)
          intro v4 w4 hown4 hgrow4 _
          have hwz : X.heap.size ≤ Z.heap.size := HG2.out.1.size
          have HB4 := Lib.hid (HG2.out.1.trans (below_grown ((Below.refl X.heap.size Z).alloc hwz (.cells #[.int .i64 (yk), .int .i64 (yv), .bool (true)] 68)) HG2.out.2.1 (Nat.le_refl _) hwz hgrow4))
          have HO4 := Lib.hid hown4
          clear hown4 hgrow4 e0 e1 e2
          go_wp2_with fail
          go_roundg (gk - 1)
          case measure => omega
          case rel =>
            have hj := HJ.out
            have hq9 := HQ.out
            refine ⟨outs ++ [(yk, yv, true)], q9, ?_, ?_, rfl, by omega, by omega, ?_, ?_, HB4.out⟩
            · rw [List.length_append, List.length_singleton]; omega
            · rw [List.length_append, List.length_singleton, ← hj]; rfl
            · rw [HTO.out, seens_step HM.out, HSN.out, HPN.out, List.length_append, List.length_singleton, ← hj, List.append_assoc]; rfl
            · rw [List.length_append, List.length_singleton, ← hj, sncells_append]; exact HO4.out
      · rcases (show q < 0 ∨ (n : Int) ≤ q ∨ (0 ≤ q ∧ q < n) by omega) with hq | hq | hq
        · have d1 : decide (q < 0) = true := by simp; omega
          have HSN : Hid (mvSeen es (opt n q) (3, key) = (0, 0, false)) := by rw [opt_lo hq]; rfl
          have HPN : Hid (mvPos (ltO o) es (opt n q) (3, key) = opt n (q)) := by rw [opt_lo hq]; rfl
          have e0 := HG.out.c0
          have e1 := HG.out.c1
          have e2 := HG.out.c2
          go_wp2_with (at_builtin; refine wpList_append_own _ rfl (.tmp 70) (.tmp 72) 61 rfl X.heap.size 68 i68 (.agg #[.int .i64 0, .int .i64 0, .bool false]) 3 24 Try.underlying61 HI.out.1 HI.out.2.1 HI.out.2.2.1 HI.out.2.2.2 rfl (by decide) _ _ _ rfl (HG.out.2.1.alloc _) ⟨Y.heap.size, 0, none⟩ 1 1 [.int .i64 (0), .int .i64 (0), .bool (false)] rfl rfl (three_new _ _ _ _ _) (sn_one _ _ _) (by unfold maxLen; omega) (by omega) (by have := HG.out.1.size; rw [size_alloc]; omega) ?_)
          intro v4 w4 hown4 hgrow4 _
          have hwz : X.heap.size ≤ Y.heap.size := HG.out.1.size
          have HB4 := Lib.hid (HG.out.1.trans (below_grown ((Below.refl X.heap.size Y).alloc hwz (.cells #[.int .i64 (0), .int .i64 (0), .bool (false)] 68)) HG.out.2.1 (Nat.le_refl _) hwz hgrow4))
          have HO4 := Lib.hid hown4
          clear hown4 hgrow4 e0 e1 e2
          go_wp2_with fail
          go_roundg (gk - 1)
          case measure => omega
          case rel =>
            have hj := HJ.out
            refine ⟨outs ++ [(0, 0, false)], q, ?_, ?_, rfl, by omega, by omega, ?_, ?_, HB4.out⟩
            · rw [List.length_append, List.length_singleton]; omega
            · rw [List.length_append, List.length_singleton, ← hj]; rfl
            · rw [HTO.out, seens_step HM.out, HSN.out, HPN.out, List.length_append, List.length_singleton, ← hj, List.append_assoc]; rfl
            · rw [List.length_append, List.length_singleton, ← hj, sncells_append]; exact HO4.out
        · have d1 : decide (q < 0) = false := by simp; omega
          have d2 : decide ((n : Int) ≤ q) = true := by simp; omega
          have HSN : Hid (mvSeen es (opt n q) (3, key) = (0, 0, false)) := by rw [opt_hi hq]; rfl
          have HPN : Hid (mvPos (ltO o) es (opt n q) (3, key) = opt n (q)) := by rw [opt_hi hq]; rfl
          have e0 := HG.out.c0
          have e1 := HG.out.c1
          have e2 := HG.out.c2
          go_wp2_with (at_builtin; refine wpList_append_own _ rfl (.tmp 70) (.tmp 72) 61 rfl X.heap.size 68 i68 (.agg #[.int .i64 0, .int .i64 0, .bool false]) 3 24 Try.underlying61 HI.out.1 HI.out.2.1 HI.out.2.2.1 HI.out.2.2.2 rfl (by decide) _ _ _ rfl (HG.out.2.1.alloc _) ⟨Y.heap.size, 0, none⟩ 1 1 [.int .i64 (0), .int .i64 (0), .bool (false)] rfl rfl (three_new _ _ _ _ _) (sn_one _ _ _) (by unfold maxLen; omega) (by omega) (by have := HG.out.1.size; rw [size_alloc]; omega) ?_)
          intro v4 w4 hown4 hgrow4 _
          have hwz : X.heap.size ≤ Y.heap.size := HG.out.1.size
          have HB4 := Lib.hid (HG.out.1.trans (below_grown ((Below.refl X.heap.size Y).alloc hwz (.cells #[.int .i64 (0), .int .i64 (0), .bool (false)] 68)) HG.out.2.1 (Nat.le_refl _) hwz hgrow4))
          have HO4 := Lib.hid hown4
          clear hown4 hgrow4 e0 e1 e2
          go_wp2_with fail
          go_roundg (gk - 1)
          case measure => omega
          case rel =>
            have hj := HJ.out
            refine ⟨outs ++ [(0, 0, false)], q, ?_, ?_, rfl, by omega, by omega, ?_, ?_, HB4.out⟩
            · rw [List.length_append, List.length_singleton]; omega
            · rw [List.length_append, List.length_singleton, ← hj]; rfl
            · rw [HTO.out, seens_step HM.out, HSN.out, HPN.out, List.length_append, List.length_singleton, ← hj, List.append_assoc]; rfl
            · rw [List.length_append, List.length_singleton, ← hj, sncells_append]; exact HO4.out
        · obtain ⟨i, rfl⟩ : ∃ i : Nat, q = i := ⟨q.toNat, by omega⟩
          have d1 : decide ((i : Int) < 0) = false := by simp
          have d2 : decide ((n : Int) ≤ (i : Int)) = false := by simp; omega
          have d3 : ¬ n ≤ i := by omega
          have hi0 : (0 : Int) ≤ (i : Int) := by omega
          have hi1 : (i : Int) < (n : Int) := by omega
          obtain ⟨y, hy⟩ : ∃ y, es[i]? = some y := ⟨_, List.getElem?_eq_getElem (by rw [← HNE.out]; omega)⟩
          obtain ⟨⟨gk1, hg1, hc1⟩, gv1, hg2, hc2⟩ := HR.out.below HWY.out i y hy
          subst hg1 hg2
          have HY := Lib.hid hy
          obtain ⟨yk, yv⟩ := y
          have f0 := HG.out.f 0
          have f1 := HG.out.f 1
          have f2 := HG.out.f 2
          have q0 := HG.out.c0
          have q1 := HG.out.c1
          have q2 := HG.out.c2
          obtain ⟨q9, hq9⟩ : ∃ q9 : Int, q9 = (i : Int) - 1 := ⟨_, rfl⟩
          have hwq : IntKind.i64.wrap ((i : Int) - 1) = q9 := by rw [IntKind.wrap_i64]; omega
          have hwq2 : (i : Int) - 1 = q9 := hq9.symm
          have hwq3 : IntKind.i64.wrap q9 = q9 := by rw [IntKind.wrap_i64]; omega
          have HQ := Lib.hid hq9
          clear hy hq9
          go_upto_region 9 with (fail)
          refine region_tail 11 (by kernel_rfl) (by kernel_rfl) ?_
          simp only [List.take_succ_cons, List.take_zero, List.drop_succ_cons, List.drop_zero]
          repeat still_step
          refine wpStill_nil ?_
          go_upto_region 10 with (fail)
          have HG2 : Hid (Rds X X.heap.size b8 u7 j (sncells outs) (.int .i64 yk) (.int .i64 yv) (.bool true) (((Y.setCell ⟨b8, 0, none⟩ (.int .i64 yk)).setCell ⟨b8, 1, none⟩ (.int .i64 yv)).setCell ⟨b8, 2, none⟩ (.bool true)).drew) :=
            (((HG.out.set 0 (.int .i64 yk) (x' := .int .i64 yk) (y' := .int .i64 0) (z' := .bool false) rfl).set 1 (.int .i64 yv) (x' := .int .i64 yk) (y' := .int .i64 yv) (z' := .bool false) rfl).set 2 (.bool true) (x' := .int .i64 yk) (y' := .int .i64 yv) (z' := .bool true) rfl).below (Below.refl _ _).drew
          have HX8 : Hid ((((Y.setCell ⟨b8, 0, none⟩ (.int .i64 yk)).setCell ⟨b8, 1, none⟩ (.int .i64 yv)).setCell ⟨b8, 2, none⟩ (.bool true)).drew.heap[b7]? = some (.cells #[Value.int IntKind.u8 3, Value.int IntKind.i64 key] 44 (0, 0))) := by
            have h := KB.trans (KB.trans (KB.set (i := 0) HG.out.2.2.1 (.int .i64 yk)) (KB.set (i := 1) (HG.out.set 0 (.int .i64 yk) (x' := .int .i64 yk) (y' := .int .i64 0) (z' := .bool false) rfl).2.2.1 (.int .i64 yv))) (KB.set (i := 2) ((HG.out.set 0 (.int .i64 yk) (x' := .int .i64 yk) (y' := .int .i64 0) (z' := .bool false) rfl).set 1 (.int .i64 yv) (x' := .int .i64 yk) (y' := .int .i64 yv) (z' := .bool false) rfl).2.2.1 (.bool true))
            exact h b7 _ 44 HX7.out (by decide)
          clear f0 f1 f2 q0 q1 q2 HG HX7 HXY HWY y0 y1 z0 z1 z2 hc1 hc2
          generalize (((Y.setCell ⟨b8, 0, none⟩ (.int .i64 yk)).setCell ⟨b8, 1, none⟩ (.int .i64 yv)).setCell ⟨b8, 2, none⟩ (.bool true)).drew = Z at HG2 HX8 ⊢
          have y0 := cell_at (j := 0) HX8.out rfl
          have HSN : Hid (mvSeen es (opt n (i : Int)) (3, key) = (yk, yv, true)) := by rw [opt_in (by omega)]; show (match es[i]? with | some y => (y.1, y.2, true) | none => (0, 0, false)) = _; rw [HY.out]
          have HPN : Hid (mvPos (ltO o) es (opt n (i : Int)) (3, key) = opt n (q9)) := by rw [HQ.out, opt_in (by omega), opt_pre (by omega)]; rfl
          have e0 := HG2.out.c0
          have e1 := HG2.out.c1
          have e2 := HG2.out.c2
          go_wp2_with (at_builtin; refine wpList_append_own _ rfl (.tmp 70) (.tmp 72) 61 rfl X.heap.size 68 i68 (.agg #[.int .i64 0, .int .i64 0, .bool false]) 3 24 Try.underlying61 HI.out.1 HI.out.2.1 HI.out.2.2.1 HI.out.2.2.2 rfl (by decide) _ _ _ rfl (HG2.out.2.1.alloc _) ⟨Z.heap.size, 0, none⟩ 1 1 [.int .i64 (yk), .int .i64 (yv), .bool (true)] rfl rfl (three_new _ _ _ _ _) (sn_one _ _ _) (by unfold maxLen; omega) (by omega) (by have := HG2.out.1.size; rw [size_alloc]; omega) ?_)
          intro v4 w4 hown4 hgrow4 _
          have hwz : X.heap.size ≤ Z.heap.size := HG2.out.1.size
          have HB4 := Lib.hid (HG2.out.1.trans (below_grown ((Below.refl X.heap.size Z).alloc hwz (.cells #[.int .i64 (yk), .int .i64 (yv), .bool (true)] 68)) HG2.out.2.1 (Nat.le_refl _) hwz hgrow4))
          have HO4 := Lib.hid hown4
          clear hown4 hgrow4 e0 e1 e2
          go_wp2_with fail
          go_roundg (gk - 1)
          case measure => omega
          case rel =>
            have hj := HJ.out
            have hq9 := HQ.out
            refine ⟨outs ++ [(yk, yv, true)], q9, ?_, ?_, rfl, by omega, by omega, ?_, ?_, HB4.out⟩
            · rw [List.length_append, List.length_singleton]; omega
            · rw [List.length_append, List.length_singleton, ← hj]; rfl
            · rw [HTO.out, seens_step HM.out, HSN.out, HPN.out, List.length_append, List.length_singleton, ← hj, List.append_assoc]; rfl
            · rw [List.length_append, List.length_singleton, ← hj, sncells_append]; exact HO4.out
    · have h1 : decide ((j : Int) < (N : Int)) = false := by simp; omega
      have hjn : j = N := by omega
      have HJN := Lib.hid hjn
      clear hjn
      go_wp2_with fail
      refine bodyPost_ret (results_tmp rfl _ _ _) rfl ?_
      refine ⟨_, rfl, ?_, HBX.out.trans (HB.out.mono HBX.out.size)⟩
      have ht := HTO.out
      rw [List.drop_of_length_le (by rw [HJN.out, HN.out]; exact Nat.le_refl _)] at ht
      rw [ht, show ∀ p, seens (ltO o) es p [] = [] from fun p => by cases p <;> rfl, List.append_nil, ← HJN.out]
      exact own_base HOW.out HBX.out.size
end Go.Proofs.Ytefigjdebakccaa
