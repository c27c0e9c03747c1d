/- What steps over versions of sorted maps tell. -/
import Derived.Test.YtefigjdebakccaaRunA
namespace Go.Proofs.Ytefigjdebakccaa
open Go.RowKit

theorem info96 : (Try.prog.info? 96).map (fun i => (i.zero, i.size, i.bytes)) = some (some (.pointer none), 1, 8) := by kernel_rfl
theorem info35 : (Try.prog.info? 35).map (fun i => (i.zero, i.size, i.bytes)) = some (some (.agg #[.int .i64 0, .bool false, .slice none 0 0, .slice none 0 0, .slice none 0 0]), 5, 88) := by kernel_rfl
theorem told_snoc {w : World} {B : Nat} {v : Value} {ts : List Told} {rs : List Sls} {t : Told} {r : Sls} (h1 : rs.length = ts.length) (ho : w.ownsRow B 35 5 v (ts.length + 1) (tcells ts rs ++ [.int .i64 t.val, .bool t.yes, r.1, r.2.1, r.2.2]))
    (hold : ∀ (i : Nat) (t : Told) (r : Sls), ts[i]? = some t → rs[i]? = some r → IV w r.1 t.keys ∧ IV w r.2.1 t.vals ∧ SV w r.2.2 t.seen) (hnew : IV w r.1 t.keys ∧ IV w r.2.1 t.vals ∧ SV w r.2.2 t.seen) : ToldsV w B v (ts ++ [t]) := by
  refine ⟨rs ++ [r], by rw [List.length_append, List.length_append, h1]; rfl, ?_, fun i t' r' ht hr => ?_⟩
  · rw [tcells_snoc t r h1.symm, List.length_append]
    exact ho
  · rcases Nat.lt_or_ge i ts.length with h9 | h9
    · rw [List.getElem?_append_left h9] at ht
      rw [List.getElem?_append_left (by omega)] at hr
      exact hold i t' r' ht hr
    · rw [List.getElem?_append_right h9] at ht
      rw [List.getElem?_append_right (by omega)] at hr
      have e : i - ts.length = 0 := by
        rcases Nat.eq_zero_or_pos (i - ts.length) with h | h
        · exact h
        · rw [List.getElem?_eq_none (by simp; omega)] at ht; cases ht
      rw [h1] at hr
      rw [e] at ht hr
      simp only [List.getElem?_cons_zero, Option.some.injEq] at ht hr
      subst ht hr
      exact hnew
theorem vers_snoc {w : World} {B o k b : Nat} {v : Value} {vs : List Es} {bs : List Nat} {es : Es} (h1 : bs.length = vs.length) (ho : w.ownsRow B 96 1 v (vs.length + 1) ((bs.map fun b => Value.pointer (some ⟨b, 0, none⟩)) ++ [.pointer (some ⟨b, 0, none⟩)]))
    (hold : ∀ (i b : Nat) (es : Es), bs[i]? = some b → vs[i]? = some es → SMapAt w b o k es ∧ es.length ≤ k) (hnew : SMapAt w b o k es ∧ es.length ≤ k) : VersV w B o k v (vs ++ [es]) := by
  refine ⟨bs ++ [b], by rw [List.length_append, List.length_append, h1]; rfl, ?_, fun i b' es' hb he => ?_⟩
  · rw [List.map_append, List.length_append]
    exact ho
  · rcases Nat.lt_or_ge i vs.length with h9 | h9
    · rw [List.getElem?_append_left (by omega)] at hb
      rw [List.getElem?_append_left h9] at he
      exact hold i b' es' hb he
    · rw [List.getElem?_append_right (by omega), h1] at hb
      rw [List.getElem?_append_right h9] at he
      have e : i - vs.length = 0 := by
        rcases Nat.eq_zero_or_pos (i - vs.length) with h | h
        · exact h
        · rw [List.getElem?_eq_none (by simp; omega)] at he; cases he
      rw [e] at hb he
      simp only [List.getElem?_cons_zero, Option.some.injEq] at hb he
      subst hb he
      exact hnew
/-- in a step: what lies in memory -/
def Stg (w : World) (H o j : Nat) (v5 : Value) (vs : List Es) (v6 : Value) (ts : List Told) (b8 : Nat) (c8 : Array Value) (b10 : Nat) (x0 x1 x2 x3 x4 : Value) (W : World) : Prop :=
  Below H w W ∧ VersV W H o j v5 vs ∧ ToldsV W H v6 ts ∧ W.heap[b8]? = some (.cells c8 89 (0, 0)) ∧ W.heap[b10]? = some (.cells #[x0, x1, x2, x3, x4] 35 (0, 0)) ∧ H ≤ b10 ∧ (∀ k, v6.ownBlock = some k → k ≠ b10) ∧ H ≤ w.heap.size
section
variable {w W W' : World} {H o j b8 b10 : Nat} {v5 v6 x0 x1 x2 x3 x4 : Value} {vs : List Es} {ts : List Told} {c8 : Array Value}
theorem Stg.below (h : Stg w H o j v5 vs v6 ts b8 c8 b10 x0 x1 x2 x3 x4 W) (hb : Below W.heap.size W W') : Stg w H o j v5 vs v6 ts b8 c8 b10 x0 x1 x2 x3 x4 W' := by
  obtain ⟨h1, h2, h3, h4, h5, h6, h7, h8⟩ := h
  exact ⟨h1.trans (hb.mono (Nat.le_trans h8 h1.size)), h2.below hb, h3.below hb, below_at hb h4, below_at hb h5, h6, h7, h8⟩
theorem Stg.f (h : Stg w H o j v5 vs v6 ts b8 c8 b10 x0 x1 x2 x3 x4 W) (i : Nat) : W.frozen? ⟨b10, i, none⟩ = false := frozen_of_row _ _ _ _ _ h.2.2.2.2.1
theorem Stg.c (h : Stg w H o j v5 vs v6 ts b8 c8 b10 x0 x1 x2 x3 x4 W) : W.cell? ⟨b10, 0, none⟩ = some x0 ∧ W.cell? ⟨b10, 1, none⟩ = some x1 ∧ W.cell? ⟨b10, 2, none⟩ = some x2 ∧ W.cell? ⟨b10, 3, none⟩ = some x3 ∧ W.cell? ⟨b10, 4, none⟩ = some x4 :=
  ⟨cell_at h.2.2.2.2.1 rfl, cell_at h.2.2.2.2.1 rfl, cell_at h.2.2.2.2.1 rfl, cell_at h.2.2.2.2.1 rfl, cell_at h.2.2.2.2.1 rfl⟩
theorem Stg.kb (h : Stg w H o j v5 vs v6 ts b8 c8 b10 x0 x1 x2 x3 x4 W) (i : Nat) (u : Value) : KB 35 W (W.setCell ⟨b10, i, none⟩ u) := KB.set h.2.2.2.2.1 u
theorem Stg.set (h : Stg w H o j v5 vs v6 ts b8 c8 b10 x0 x1 x2 x3 x4 W) (i : Nat) (u : Value) {y0 y1 y2 y3 y4 : Value} (hy : #[x0, x1, x2, x3, x4].setIfInBounds i u = #[y0, y1, y2, y3, y4]) : Stg w H o j v5 vs v6 ts b8 c8 b10 y0 y1 y2 y3 y4 (W.setCell ⟨b10, i, none⟩ u) := by
  have hk := h.kb i u
  obtain ⟨h1, h2, h3, h4, h5, h6, h7, h8⟩ := h
  refine ⟨h1.setCell h6 _, h2.kb hk own35 (by decide) (by decide), h3.set h5 h7 u, hk _ _ _ h4 (by decide), ?_, h6, h7, h8⟩
  rw [← hy]
  exact heap_setCell_same _ _ _ _ _ _ h5
end
theorem five_new (w : World) (a b c d e : Value) (t : TypeId) : ∀ j u, [a, b, c, d, e][j]? = some u → (w.alloc (.cells #[a, b, c, d, e] t)).cell? ((⟨w.heap.size, 0, none⟩ : Addr).add j) = some u := fun j u hu => by
  rw [addr_add, Nat.zero_add]
  exact cell_at (heap_alloc_last w _) (by simpa using hu)
theorem five_one {a b c d e : Value} (h1 : a.oneCell' = true) (h2 : b.oneCell' = true) (h3 : c.oneCell' = true) (h4 : d.oneCell' = true) (h5 : e.oneCell' = true) : ∀ u ∈ [a, b, c, d, e], u.oneCell' = true := fun u hu => by
  simp only [List.mem_cons, List.not_mem_nil, or_false] at hu
  rcases hu with rfl | rfl | rfl | rfl | rfl <;> assumption
theorem snew_len {w : World} {b o k : Nat} {es : Es} (_h : SMapAt w b o k es) : True := trivial

set_option maxRecDepth 100000 in
set_option maxHeartbeats 6400000 in
theorem runMaps_w (o : Nat) (steps : List Stp) (sv : Value) (w : World) (hs : StpsV w sv steps) (hr : Right 1 steps) (hn : steps.length ≤ 800) :
    Calls Try.prog 25 #[.int .u8 (o : Int), sv] w fun e w' => ∃ v, e = .returned v ∧ ToldsV w' w.heap.size v (run (ltO o) [[]] steps) ∧ Below w.heap.size w w' := by
  obtain ⟨i96, hi, hz0, hz1, hz2⟩ := info_parts info96
  have HI := Lib.hid (And.intro hi (And.intro hz0 (And.intro hz1 hz2)))
  clear hi hz0 hz1 hz2
  obtain ⟨i35, hi, hz0, hz1, hz2⟩ := info_parts info35
  have HJ := Lib.hid (And.intro hi (And.intro hz0 (And.intro hz1 hz2)))
  clear hi hz0 hz1 hz2
  have HS := Lib.hid hs
  obtain ⟨sa, scap, rfl, -⟩ := hs
  obtain ⟨tot, htot⟩ : ∃ tot, tot = run (ltO o) [[]] steps := ⟨_, rfl⟩
  rw [← htot]
  obtain ⟨n, hnn⟩ : ∃ n, n = steps.length := ⟨_, rfl⟩
  rw [← hnn] at hn ⊢
  have HN := Lib.hid hnn
  have HTOT := Lib.hid htot
  have HR := Lib.hid hr
  clear hnn htot hr
  go_enter Try.func25, Try.ntmps25
  go_wp2_with fail
  refine (order_w o w).mono ?_
  rintro e w' ⟨cv, rfl, hc, rfl⟩
  have HC := Lib.hid hc
  clear hc
  go_wp2_with fail
  refine (snew_w o cv HC.out w).mono ?_
  rintro e w1 ⟨b, rfl, hm, hb1⟩
  have HM := Lib.hid hm
  have HB1 := Lib.hid hb1
  clear hm hb1
  go_upto_region 2 with (fail)
  have hA : Below w1.heap.size w1 (w1.alloc (.cells #[.pointer (some ⟨b, 0, none⟩)] 96)) := (Below.refl _ _).alloc (Nat.le_refl _) _
  have HV : Hid (VersV (w1.alloc (.cells #[.pointer (some ⟨b, 0, none⟩)] 96)) w.heap.size o 0 (.slice (some ⟨w1.heap.size, 0, none⟩) 1 1) [[]]) := by
    refine ⟨[b], rfl, builtE w1 _ 96 HB1.out.size, fun i b' es hb he => ?_⟩
    rcases i with _ | i
    · simp only [List.getElem?_cons_zero, Option.some.injEq] at hb he
      subst hb he
      exact ⟨HM.out.below hA, Nat.le_refl _⟩
    · simp at hb
  have HBW := Lib.hid (HB1.out.trans (hA.mono HB1.out.size))
  clear hA
  generalize w1.alloc (.cells #[.pointer (some ⟨b, 0, none⟩)] 96) = W at HV HBW ⊢
  generalize w1.heap.size = g1 at HV ⊢
  clear HM HB1
  clear w1
  go_wp2_with fail
  go_loopg [5, 6, 17] n (fun k v5 v6 v17 wr => ∃ (j : Nat) (vs : List Es) (ts : List Told), j + k = n ∧ v17 = .int .i64 (j : Int) ∧ VersV wr w.heap.size o j v5 vs ∧ ToldsV wr w.heap.size v6 ts ∧ ts.length = j ∧ vs.length ≤ j + 1 ∧ tot = ts ++ run (ltO o) vs (steps.drop j) ∧ Right vs.length (steps.drop j) ∧ Below w.heap.size w wr)
  case atStart => exact ⟨0, [[]], [], by omega, rfl, HV.out, ⟨[], rfl, World.ownsRow_nil _ _ _ _, fun i t r h => by simp at h⟩, rfl, by simp, HTOT.out, HR.out, HBW.out⟩
  case round =>
    obtain ⟨j, vs, ts, hjk, rfl, hv, ht, htl, hvl, htot, hright, hb⟩ := hrel
    have HVL := Lib.hid hvl
    have HVS := Lib.hid hv
    have HTS := Lib.hid ht
    have HTL := Lib.hid htl
    have HTO := Lib.hid htot
    have HRI := Lib.hid hright
    have HB := Lib.hid hb
    clear hv ht htl htot hright hb hvl HV HBW
    by_cases hlt : j < n
    · have h1 : decide ((j : Int) < (n : Int)) = true := by simp; omega
      have hw1 : IntKind.i64.wrap ((j : Int) + 1) = (j : Int) + 1 := by rw [IntKind.wrap_i64]; omega
      have hj0 : (0 : Int) ≤ (j : Int) := by omega
      have hj1 : (j : Int) < (n : Int) := by omega
      obtain ⟨s, hs⟩ : ∃ s, steps[j]? = some s := ⟨_, List.getElem?_eq_getElem (by rw [← HN.out]; exact hlt)⟩
      obtain ⟨hon, hop6, hm5, hml, hri⟩ := right_drop hs HRI.out
      obtain ⟨a, cap, hav, hread⟩ := HS.out.below HB.out
      simp only [Value.slice.injEq] at hav
      obtain ⟨g, q, mv, ha, c0, c1, c2, c3, c4, hmv⟩ := hread j s hs
      have hsa : sa = some ⟨g, q, none⟩ := hav.1.trans ha
      subst hsa
      have HMV := Lib.hid hmv
      have HS2 := Lib.hid hs
      have HM5 := Lib.hid hm5
      have HRI2 := Lib.hid hri
      obtain ⟨ma, mcap, rfl, -⟩ := hmv
      obtain ⟨bs, hbl, hov, hvm⟩ := HVS.out
      obtain ⟨es, hes⟩ : ∃ es, vs[s.on]? = some es := ⟨_, List.getElem?_eq_getElem hon⟩
      obtain ⟨mb, hmb⟩ : ∃ b, bs[s.on]? = some b := ⟨_, List.getElem?_eq_getElem (by rw [hbl]; exact hon)⟩
      obtain ⟨hmap, hel⟩ := hvm s.on mb es hmb hes
      obtain ⟨g5, cap5, h5⟩ := own_shape hov (by omega)
      subst h5
      have hcp : wr.cell? ⟨g5, s.on, none⟩ = some (.pointer (some ⟨mb, 0, none⟩)) := own_cell hov (by rw [List.getElem?_map, hmb]; rfl)
      have HVO : Hid (verOf vs s = es) := by
        show vs.getD s.on [] = es
        rw [List.getD_eq_getElem?_getD, hes]
        rfl
      have HMAP := Lib.hid hmap
      obtain ⟨N5, hN5⟩ : ∃ N5, N5 = vs.length := ⟨_, rfl⟩
      have hN5m : N5 < 1000000 := by have := HVL.out; omega
      rw [← hN5] at hon hov HRI2 ⊢
      have HN5 := Lib.hid hN5
      obtain ⟨op, on, key, val, moves⟩ := s
      simp only at hon hop6 c0 c1 c2 c3 hcp hml hm5
      have hon' : (on : Int) < (N5 : Int) := by omega
      have hon0 : (0 : Int) ≤ (on : Int) := by omega
      clear hread hav ha hs hm5 hri hbl hov hvm hes hmb hmap hN5
      go_upto_region 6 with (fail)
      have hbx : Below wr.heap.size wr (wr.alloc (.cells #[.int .u8 (op : Int), .int .i64 (on : Int), .int .i64 key, .int .i64 val, .slice ma moves.length mcap] 89)) := (Below.refl _ _).alloc (Nat.le_refl _) _
      have HX8 : Hid ((wr.alloc (.cells #[.int .u8 (op : Int), .int .i64 (on : Int), .int .i64 key, .int .i64 val, .slice ma moves.length mcap] 89)).heap[wr.heap.size]? = some (.cells #[.int .u8 (op : Int), .int .i64 (on : Int), .int .i64 key, .int .i64 val, .slice ma moves.length mcap] 89 (0, 0))) := heap_alloc_last wr _
      have HVX := Lib.hid (HVS.out.below hbx)
      have HTX := Lib.hid (HTS.out.below hbx)
      have HMX := Lib.hid (HMAP.out.below hbx)
      have HMVX := Lib.hid (HMV.out.below hbx)
      have HBX := Lib.hid (HB.out.trans (hbx.mono HB.out.size))
      have hcpX := bcell hbx hcp
      clear hbx c0 c1 c2 c3 c4 hcp HVS HTS HMAP HMV HB
      generalize wr.alloc (.cells #[.int .u8 (op : Int), .int .i64 (on : Int), .int .i64 key, .int .i64 val, .slice ma moves.length mcap] 89) = X at HX8 HVX HTX HMX HMVX HBX hcpX ⊢
      generalize wr.heap.size = b8 at HX8 ⊢
      clear wr
      have x1 := cell_at (j := 1) HX8.out rfl
      go_wp2_with fail
      refine (at_w on N5 hon hN5m X).mono ?_
      rintro e w' ⟨rfl, rfl⟩
      go_upto_region 8 with (fail)
      have hbx : Below X.heap.size X (X.alloc (.cells #[.int .i64 0, .bool false, .slice none 0 0, .slice none 0 0, .slice none 0 0] 35)) := (Below.refl _ _).alloc (Nat.le_refl _) _
      have HG : Hid (Stg w w.heap.size o j (.slice (some ⟨g5, 0, none⟩) N5 cap5) vs u6 ts b8 #[.int .u8 (op : Int), .int .i64 (on : Int), .int .i64 key, .int .i64 val, .slice ma moves.length mcap] X.heap.size (.int .i64 0) (.bool false) (.slice none 0 0) (.slice none 0 0) (.slice none 0 0) (X.alloc (.cells #[.int .i64 0, .bool false, .slice none 0 0, .slice none 0 0, .slice none 0 0] 35))) := by
        have hv := HVX.out.below hbx
        rw [← HN5.out] at *
        refine ⟨HBX.out.trans (hbx.mono HBX.out.size), hv, HTX.out.below hbx, below_at hbx HX8.out, heap_alloc_last X _, HBX.out.size, fun k hk e => ?_, Nat.le_refl _⟩
        obtain ⟨rs, -, ho, -⟩ := HTX.out
        have := (ho.lt k hk).2
        omega
      have HMY := Lib.hid (HMX.out.below hbx)
      have HMVY := Lib.hid (HMVX.out.below hbx)
      clear hbx HX8 HVX HTX HMX HMVX HBX hcpX x1
      generalize X.alloc (.cells #[.int .i64 0, .bool false, .slice none 0 0, .slice none 0 0, .slice none 0 0] 35) = Y at HG HMY HMVY ⊢
      generalize X.heap.size = b10 at HG ⊢
      clear X
      have y0 := cell_at (j := 0) HG.out.2.2.2.1 rfl
      have y2 := cell_at (j := 2) HG.out.2.2.2.1 rfl
      have y3 := cell_at (j := 3) HG.out.2.2.2.1 rfl
      have HOP : op = 0 ∨ op = 1 ∨ op = 2 ∨ op = 3 ∨ op = 4 ∨ op = 5 ∨ op = 6 := by omega
      have HEL := Lib.hid hel
      have HSRT : Hid (Srt (ltO o) es) := by
        obtain ⟨_, _, _, h, _⟩ := HMY.out
        exact h
      clear hop6 hlt hel
      rcases HOP with rfl | rfl | rfl | rfl | rfl | rfl | rfl
      · go_wp2_with fail
        refine (sSet_w o mb j key val es (by have := HEL.out; omega) Y HMY.out).mono ?_
        rintro e w2 ⟨b', rfl, hm2, hb2⟩
        have HM2 := Lib.hid hm2
        have HG2 := Lib.hid (HG.out.below hb2)
        clear hm2 hb2 HG HMY HMVY y0 y2 y3
        obtain ⟨bs, q1, q2, q3⟩ := HG2.out.2.1
        rw [← HN5.out] at q2
        have HOV := Lib.hid q2
        have HQV := Lib.hid (And.intro q1 q3)
        clear q1 q2 q3
        have hN5b : N5 ≤ 801 := by have := HVL.out; have := HN5.out; omega
        go_wp2_with (at_builtin; refine wpList_append_own _ rfl (.tmp 33) (.tmp 40) 101 rfl w.heap.size 96 i96 (.pointer none) 1 8 Try.underlying101 HI.out.1 HI.out.2.1 HI.out.2.2.1 HI.out.2.2.2 rfl (by decide) _ _ _ rfl (HOV.out.alloc _) ⟨w2.heap.size, 0, none⟩ 1 1 [.pointer (some ⟨b', 0, none⟩)] rfl rfl (new_cell _ _ _) (one_oneCell rfl) (by unfold maxLen; omega) (by omega) (by have := HG2.out.1.size; rw [size_alloc]; omega) ?_)
        intro v5n w3 hown3 hgrow3 _
        have hwz : w.heap.size ≤ w2.heap.size := HG2.out.1.size
        have hA3 : Below w2.heap.size w2 (w2.alloc (.cells #[.pointer (some ⟨b', 0, none⟩)] 96)) := (Below.refl _ _).alloc (Nat.le_refl _) _
        have hkb : KB 96 w2 w3 := (KB.of_below 96 hA3).trans (KB.grown (HOV.out.alloc _) hgrow3)
        have hbw := below_grown ((Below.refl w.heap.size w2).alloc hwz (.cells #[.pointer (some ⟨b', 0, none⟩)] 96)) HOV.out (Nat.le_refl _) hwz hgrow3
        have HG3 : Hid (Stg w w.heap.size o (j + 1) v5n (vs ++ [ins (ltO o) es key val]) u6 ts b8 #[.int .u8 0, .int .i64 (on : Int), .int .i64 key, .int .i64 val, .slice ma moves.length mcap] b10 (.int .i64 0) (.bool false) (.slice none 0 0) (.slice none 0 0) (.slice none 0 0) w3) := by
          obtain ⟨s1, s2, s3, s4, s5, s6, s7, s8⟩ := HG2.out
          refine ⟨s1.trans hbw, ?_, s3.kb hkb (by decide) (by decide) (by decide), hkb _ _ _ s4 (by decide), hkb _ _ _ s5 (by decide), s6, s7, s8⟩
          refine vers_snoc HQV.out.1 (by rw [← HN5.out]; exact hown3) (fun i b es hb he => ?_) ⟨HM2.out.kb hkb own96 (by decide), by rw [ins_len (ord_ltO o) HSRT.out]; have := HEL.out; split <;> omega⟩
          · obtain ⟨p1, p2⟩ := HQV.out.2 i b es hb he
            exact ⟨(p1.kb hkb own96 (by decide)).more (Nat.le_succ _), Nat.le_succ_of_le p2⟩
        clear hown3 hgrow3 hA3 hkb hbw HG2 HM2 HOV HQV
        have z := HG3.out.c
        obtain ⟨z0, z1, z2, z3, z4⟩ := z
        obtain ⟨rs, q1, q2, q3⟩ := HG3.out.2.2.1
        obtain ⟨nt, hnt⟩ : ∃ nt, nt = ts.length := ⟨_, rfl⟩
        rw [← hnt] at q2
        have HNT := Lib.hid hnt
        have HO := Lib.hid q2
        have HQ := Lib.hid (And.intro q1 q3)
        have hnt2 : nt ≤ 800 := by have := HTL.out; omega
        clear q1 q2 q3 hnt
        go_wp2_with (at_builtin; refine wpList_append_own _ rfl (.tmp 95) (.tmp 97) 29 rfl w.heap.size 35 i35 (.agg #[.int .i64 0, .bool false, .slice none 0 0, .slice none 0 0, .slice none 0 0]) 5 88 Try.underlying29 HJ.out.1 HJ.out.2.1 HJ.out.2.2.1 HJ.out.2.2.2 rfl (by decide) _ _ _ rfl (HO.out.alloc _) ⟨w3.heap.size, 0, none⟩ 1 1 [.int .i64 (0), .bool (false), .slice none 0 0, .slice none 0 0, .slice none 0 0] rfl rfl (five_new _ _ _ _ _ _ _) (five_one rfl rfl rfl rfl rfl) (by unfold maxLen; omega) (by omega) (by have := HG3.out.1.size; rw [size_alloc]; omega) ?_)
        intro v4 w4 hown4 hgrow4 _
        have hwz : w.heap.size ≤ w3.heap.size := HG3.out.1.size
        have hA4 : Below w3.heap.size w3 (w3.alloc (.cells #[.int .i64 (0), .bool (false), .slice none 0 0, .slice none 0 0, .slice none 0 0] 35)) := (Below.refl _ _).alloc (Nat.le_refl _) _
        have HBW := Lib.hid (below_grown ((Below.refl w.heap.size w3).alloc hwz (.cells #[.int .i64 (0), .bool (false), .slice none 0 0, .slice none 0 0, .slice none 0 0] 35)) HO.out (Nat.le_refl _) hwz hgrow4)
        have HKB : Hid (KB 35 w3 w4) := (KB.of_below 35 hA4).trans (KB.grown (HO.out.alloc _) hgrow4)
        have HO4 := Lib.hid hown4
        clear hown4 hgrow4 hA4 z0 z1 z2 z3 z4
        go_wp2_with fail
        go_roundg (gk - 1)
        case measure => omega
        case rel =>
          have hel2 : (tell (ltO o) (verOf vs ⟨0, on, key, val, moves⟩) ⟨0, on, key, val, moves⟩) = ⟨0, false, [], [], []⟩ := by rw [HVO.out]; rfl
          have hnx : next (ltO o) vs ⟨0, on, key, val, moves⟩ = vs ++ [ins (ltO o) es key val] := by show vs ++ [ins (ltO o) (verOf vs _) key val] = _; rw [HVO.out]
          refine ⟨j + 1, vs ++ [ins (ltO o) es key val], ts ++ [⟨0, false, [], [], []⟩], by omega, rfl, HG3.out.2.1.kb HKB.out own35 (by decide) (by decide), ?_, ?_, ?_, ?_, ?_, ?_⟩
          · refine told_snoc (r := (.slice none 0 0, .slice none 0 0, .slice none 0 0)) HQ.out.1 (by rw [← HNT.out]; exact HO4.out) (fun i t r ht hr => ?_) ?_
            · obtain ⟨k1, k2, k3⟩ := HQ.out.2 i t r ht hr
              exact ⟨k1.kb (by decide) HKB.out, k2.kb (by decide) HKB.out, k3.kb (by decide) HKB.out⟩
            · exact ⟨IV.kb (by decide) HKB.out (IV.nil _), IV.kb (by decide) HKB.out (IV.nil _), SV.kb (by decide) HKB.out (SV.nil _)⟩
          · rw [List.length_append, HTL.out]; rfl
          · rw [← hnx, next_len]; have := HVL.out; split <;> omega
          · rw [HTO.out, run_drop HS2.out, hel2, hnx, List.append_assoc]; rfl
          · have h := HRI2.out
            have h2 := next_len (ltO o) vs ⟨0, on, key, val, moves⟩
            rw [hnx] at h2
            rw [HN5.out] at h
            rw [h2]
            exact h
          · exact HG3.out.1.trans HBW.out
      · go_wp2_with fail
        refine (sDelete_w o mb j key es (by have := HEL.out; omega) Y HMY.out).mono ?_
        rintro e w2 ⟨b', rfl, hm2, hb2⟩
        have HM2 := Lib.hid hm2
        have HG2 := Lib.hid (HG.out.below hb2)
        clear hm2 hb2 HG HMY HMVY y0 y2 y3
        obtain ⟨bs, q1, q2, q3⟩ := HG2.out.2.1
        rw [← HN5.out] at q2
        have HOV := Lib.hid q2
        have HQV := Lib.hid (And.intro q1 q3)
        clear q1 q2 q3
        have hN5b : N5 ≤ 801 := by have := HVL.out; have := HN5.out; omega
        go_wp2_with (at_builtin; refine wpList_append_own _ rfl (.tmp 44) (.tmp 49) 101 rfl w.heap.size 96 i96 (.pointer none) 1 8 Try.underlying101 HI.out.1 HI.out.2.1 HI.out.2.2.1 HI.out.2.2.2 rfl (by decide) _ _ _ rfl (HOV.out.alloc _) ⟨w2.heap.size, 0, none⟩ 1 1 [.pointer (some ⟨b', 0, none⟩)] rfl rfl (new_cell _ _ _) (one_oneCell rfl) (by unfold maxLen; omega) (by omega) (by have := HG2.out.1.size; rw [size_alloc]; omega) ?_)
        intro v5n w3 hown3 hgrow3 _
        have hwz : w.heap.size ≤ w2.heap.size := HG2.out.1.size
        have hA3 : Below w2.heap.size w2 (w2.alloc (.cells #[.pointer (some ⟨b', 0, none⟩)] 96)) := (Below.refl _ _).alloc (Nat.le_refl _) _
        have hkb : KB 96 w2 w3 := (KB.of_below 96 hA3).trans (KB.grown (HOV.out.alloc _) hgrow3)
        have hbw := below_grown ((Below.refl w.heap.size w2).alloc hwz (.cells #[.pointer (some ⟨b', 0, none⟩)] 96)) HOV.out (Nat.le_refl _) hwz hgrow3
        have HG3 : Hid (Stg w w.heap.size o (j + 1) v5n (vs ++ [del (ltO o) es key]) u6 ts b8 #[.int .u8 1, .int .i64 (on : Int), .int .i64 key, .int .i64 val, .slice ma moves.length mcap] b10 (.int .i64 0) (.bool false) (.slice none 0 0) (.slice none 0 0) (.slice none 0 0) w3) := by
          obtain ⟨s1, s2, s3, s4, s5, s6, s7, s8⟩ := HG2.out
          refine ⟨s1.trans hbw, ?_, s3.kb hkb (by decide) (by decide) (by decide), hkb _ _ _ s4 (by decide), hkb _ _ _ s5 (by decide), s6, s7, s8⟩
          refine vers_snoc HQV.out.1 (by rw [← HN5.out]; exact hown3) (fun i b es hb he => ?_) ⟨(HM2.out.kb hkb own96 (by decide)).more (Nat.le_succ _), by rw [del_len (ord_ltO o) HSRT.out]; have := HEL.out; omega⟩
          · obtain ⟨p1, p2⟩ := HQV.out.2 i b es hb he
            exact ⟨(p1.kb hkb own96 (by decide)).more (Nat.le_succ _), Nat.le_succ_of_le p2⟩
        clear hown3 hgrow3 hA3 hkb hbw HG2 HM2 HOV HQV
        have z := HG3.out.c
        obtain ⟨z0, z1, z2, z3, z4⟩ := z
        obtain ⟨rs, q1, q2, q3⟩ := HG3.out.2.2.1
        obtain ⟨nt, hnt⟩ : ∃ nt, nt = ts.length := ⟨_, rfl⟩
        rw [← hnt] at q2
        have HNT := Lib.hid hnt
        have HO := Lib.hid q2
        have HQ := Lib.hid (And.intro q1 q3)
        have hnt2 : nt ≤ 800 := by have := HTL.out; omega
        clear q1 q2 q3 hnt
        go_wp2_with (at_builtin; refine wpList_append_own _ rfl (.tmp 95) (.tmp 97) 29 rfl w.heap.size 35 i35 (.agg #[.int .i64 0, .bool false, .slice none 0 0, .slice none 0 0, .slice none 0 0]) 5 88 Try.underlying29 HJ.out.1 HJ.out.2.1 HJ.out.2.2.1 HJ.out.2.2.2 rfl (by decide) _ _ _ rfl (HO.out.alloc _) ⟨w3.heap.size, 0, none⟩ 1 1 [.int .i64 (0), .bool (false), .slice none 0 0, .slice none 0 0, .slice none 0 0] rfl rfl (five_new _ _ _ _ _ _ _) (five_one rfl rfl rfl rfl rfl) (by unfold maxLen; omega) (by omega) (by have := HG3.out.1.size; rw [size_alloc]; omega) ?_)
        intro v4 w4 hown4 hgrow4 _
        have hwz : w.heap.size ≤ w3.heap.size := HG3.out.1.size
        have hA4 : Below w3.heap.size w3 (w3.alloc (.cells #[.int .i64 (0), .bool (false), .slice none 0 0, .slice none 0 0, .slice none 0 0] 35)) := (Below.refl _ _).alloc (Nat.le_refl _) _
        have HBW := Lib.hid (below_grown ((Below.refl w.heap.size w3).alloc hwz (.cells #[.int .i64 (0), .bool (false), .slice none 0 0, .slice none 0 0, .slice none 0 0] 35)) HO.out (Nat.le_refl _) hwz hgrow4)
        have HKB : Hid (KB 35 w3 w4) := (KB.of_below 35 hA4).trans (KB.grown (HO.out.alloc _) hgrow4)
        have HO4 := Lib.hid hown4
        clear hown4 hgrow4 hA4 z0 z1 z2 z3 z4
        go_wp2_with fail
        go_roundg (gk - 1)
        case measure => omega
        case rel =>
          have hel2 : (tell (ltO o) (verOf vs ⟨1, on, key, val, moves⟩) ⟨1, on, key, val, moves⟩) = ⟨0, false, [], [], []⟩ := by rw [HVO.out]; rfl
          have hnx : next (ltO o) vs ⟨1, on, key, val, moves⟩ = vs ++ [del (ltO o) es key] := by show vs ++ [del (ltO o) (verOf vs _) key] = _; rw [HVO.out]
          refine ⟨j + 1, vs ++ [del (ltO o) es key], ts ++ [⟨0, false, [], [], []⟩], by omega, rfl, HG3.out.2.1.kb HKB.out own35 (by decide) (by decide), ?_, ?_, ?_, ?_, ?_, ?_⟩
          · refine told_snoc (r := (.slice none 0 0, .slice none 0 0, .slice none 0 0)) HQ.out.1 (by rw [← HNT.out]; exact HO4.out) (fun i t r ht hr => ?_) ?_
            · obtain ⟨k1, k2, k3⟩ := HQ.out.2 i t r ht hr
              exact ⟨k1.kb (by decide) HKB.out, k2.kb (by decide) HKB.out, k3.kb (by decide) HKB.out⟩
            · exact ⟨IV.kb (by decide) HKB.out (IV.nil _), IV.kb (by decide) HKB.out (IV.nil _), SV.kb (by decide) HKB.out (SV.nil _)⟩
          · rw [List.length_append, HTL.out]; rfl
          · rw [← hnx, next_len]; have := HVL.out; split <;> omega
          · rw [HTO.out, run_drop HS2.out, hel2, hnx, List.append_assoc]; rfl
          · have h := HRI2.out
            have h2 := next_len (ltO o) vs ⟨1, on, key, val, moves⟩
            rw [hnx] at h2
            rw [HN5.out] at h
            rw [h2]
            exact h
          · exact HG3.out.1.trans HBW.out
      · have hget := sget_w mb o j key es Y HMY.out
        obtain ⟨ga, hga⟩ : ∃ ga, ga = (look (ltO o) es key).getD 0 := ⟨_, rfl⟩
        obtain ⟨gb, hgb⟩ : ∃ gb, gb = (look (ltO o) es key).isSome := ⟨_, rfl⟩
        rw [← hga, ← hgb] at hget
        have HGA := Lib.hid hga
        have HGB := Lib.hid hgb
        have HGET := Lib.hid hget
        clear hga hgb hget
        go_wp2_with fail
        refine HGET.out.mono ?_
        rintro e w2 ⟨rfl, hb2⟩
        have HG2 := Lib.hid (HG.out.below hb2)
        clear hb2 HG HMY HMVY y0 y2 y3 HGET
        have z := HG2.out.c
        obtain ⟨z0, z1, z2, z3, z4⟩ := z
        have f0 := HG2.out.f 0
        have f1 := HG2.out.f 1
        go_upto_region 23 with (fail)
        have HGN := Lib.hid ((HG2.out.set 0 (.int .i64 ga) (y0 := .int .i64 ga) (y1 := .bool false) (y2 := .slice none 0 0) (y3 := .slice none 0 0) (y4 := .slice none 0 0) rfl).set 1 (.bool gb) (y0 := .int .i64 ga) (y1 := .bool gb) (y2 := .slice none 0 0) (y3 := .slice none 0 0) (y4 := .slice none 0 0) rfl)
        clear z0 z1 z2 z3 z4 f0 f1 HG2
        generalize (w2.setCell ⟨b10, 0, none⟩ (.int .i64 ga)).setCell ⟨b10, 1, none⟩ (.bool gb) = Z at HGN ⊢
        have z := HGN.out.c
        obtain ⟨z0, z1, z2, z3, z4⟩ := z
        obtain ⟨rs, q1, q2, q3⟩ := HGN.out.2.2.1
        obtain ⟨nt, hnt⟩ : ∃ nt, nt = ts.length := ⟨_, rfl⟩
        rw [← hnt] at q2
        have HNT := Lib.hid hnt
        have HO := Lib.hid q2
        have HQ := Lib.hid (And.intro q1 q3)
        have hnt2 : nt ≤ 800 := by have := HTL.out; omega
        clear q1 q2 q3 hnt
        go_wp2_with (at_builtin; refine wpList_append_own _ rfl (.tmp 95) (.tmp 97) 29 rfl w.heap.size 35 i35 (.agg #[.int .i64 0, .bool false, .slice none 0 0, .slice none 0 0, .slice none 0 0]) 5 88 Try.underlying29 HJ.out.1 HJ.out.2.1 HJ.out.2.2.1 HJ.out.2.2.2 rfl (by decide) _ _ _ rfl (HO.out.alloc _) ⟨Z.heap.size, 0, none⟩ 1 1 [.int .i64 (ga), .bool (gb), .slice none 0 0, .slice none 0 0, .slice none 0 0] rfl rfl (five_new _ _ _ _ _ _ _) (five_one rfl rfl rfl rfl rfl) (by unfold maxLen; omega) (by omega) (by have := HGN.out.1.size; rw [size_alloc]; omega) ?_)
        intro v4 w4 hown4 hgrow4 _
        have hwz : w.heap.size ≤ Z.heap.size := HGN.out.1.size
        have hA4 : Below Z.heap.size Z (Z.alloc (.cells #[.int .i64 (ga), .bool (gb), .slice none 0 0, .slice none 0 0, .slice none 0 0] 35)) := (Below.refl _ _).alloc (Nat.le_refl _) _
        have HBW := Lib.hid (below_grown ((Below.refl w.heap.size Z).alloc hwz (.cells #[.int .i64 (ga), .bool (gb), .slice none 0 0, .slice none 0 0, .slice none 0 0] 35)) HO.out (Nat.le_refl _) hwz hgrow4)
        have HKB : Hid (KB 35 Z w4) := (KB.of_below 35 hA4).trans (KB.grown (HO.out.alloc _) hgrow4)
        have HO4 := Lib.hid hown4
        clear hown4 hgrow4 hA4 z0 z1 z2 z3 z4
        go_wp2_with fail
        go_roundg (gk - 1)
        case measure => omega
        case rel =>
          have hel2 : (tell (ltO o) (verOf vs ⟨2, on, key, val, moves⟩) ⟨2, on, key, val, moves⟩) = ⟨ga, gb, [], [], []⟩ := by rw [HVO.out]; unfold tell; rw [if_pos rfl, HGA.out, HGB.out]
          have hnx : next (ltO o) vs ⟨2, on, key, val, moves⟩ = vs := rfl
          refine ⟨j + 1, vs, ts ++ [⟨ga, gb, [], [], []⟩], by omega, rfl, (HGN.out.2.1.kb HKB.out own35 (by decide) (by decide)).more, ?_, ?_, ?_, ?_, ?_, ?_⟩
          · refine told_snoc (r := (.slice none 0 0, .slice none 0 0, .slice none 0 0)) HQ.out.1 (by rw [← HNT.out]; exact HO4.out) (fun i t r ht hr => ?_) ?_
            · obtain ⟨k1, k2, k3⟩ := HQ.out.2 i t r ht hr
              exact ⟨k1.kb (by decide) HKB.out, k2.kb (by decide) HKB.out, k3.kb (by decide) HKB.out⟩
            · exact ⟨IV.kb (by decide) HKB.out (IV.nil _), IV.kb (by decide) HKB.out (IV.nil _), SV.kb (by decide) HKB.out (SV.nil _)⟩
          · rw [List.length_append, HTL.out]; rfl
          · rw [← hnx, next_len]; have := HVL.out; split <;> omega
          · rw [HTO.out, run_drop HS2.out, hel2, hnx, List.append_assoc]; rfl
          · have h := HRI2.out
            have h2 := next_len (ltO o) vs ⟨2, on, key, val, moves⟩
            rw [hnx] at h2
            rw [HN5.out] at h
            rw [h2]
            exact h
          · exact HGN.out.1.trans HBW.out
      · go_wp2_with fail
        refine (slen_w mb o j es Y HMY.out).mono ?_
        rintro e w2 ⟨rfl, rfl⟩
        have z := HG.out.c
        obtain ⟨z0, z1, z2, z3, z4⟩ := z
        have f0 := HG.out.f 0
        obtain ⟨ga, hga⟩ : ∃ ga : Int, ga = (es.length : Nat) := ⟨_, rfl⟩
        rw [← hga]
        have HGA := Lib.hid hga
        clear hga
        go_upto_region 23 with (fail)
        have HGN := Lib.hid (HG.out.set 0 (.int .i64 ga) (y0 := .int .i64 ga) (y1 := .bool false) (y2 := .slice none 0 0) (y3 := .slice none 0 0) (y4 := .slice none 0 0) rfl)
        clear z0 z1 z2 z3 z4 f0 HG HMY HMVY y0 y2 y3
        generalize Y.setCell ⟨b10, 0, none⟩ (.int .i64 ga) = Z at HGN ⊢
        have z := HGN.out.c
        obtain ⟨z0, z1, z2, z3, z4⟩ := z
        obtain ⟨rs, q1, q2, q3⟩ := HGN.out.2.2.1
        obtain ⟨nt, hnt⟩ : ∃ nt, nt = ts.length := ⟨_, rfl⟩
        rw [← hnt] at q2
        have HNT := Lib.hid hnt
        have HO := Lib.hid q2
        have HQ := Lib.hid (And.intro q1 q3)
        have hnt2 : nt ≤ 800 := by have := HTL.out; omega
        clear q1 q2 q3 hnt
        go_wp2_with (at_builtin; refine wpList_append_own _ rfl (.tmp 95) (.tmp 97) 29 rfl w.heap.size 35 i35 (.agg #[.int .i64 0, .bool false, .slice none 0 0, .slice none 0 0, .slice none 0 0]) 5 88 Try.underlying29 HJ.out.1 HJ.out.2.1 HJ.out.2.2.1 HJ.out.2.2.2 rfl (by decide) _ _ _ rfl (HO.out.alloc _) ⟨Z.heap.size, 0, none⟩ 1 1 [.int .i64 (ga), .bool (false), .slice none 0 0, .slice none 0 0, .slice none 0 0] rfl rfl (five_new _ _ _ _ _ _ _) (five_one rfl rfl rfl rfl rfl) (by unfold maxLen; omega) (by omega) (by have := HGN.out.1.size; rw [size_alloc]; omega) ?_)
        intro v4 w4 hown4 hgrow4 _
        have hwz : w.heap.size ≤ Z.heap.size := HGN.out.1.size
        have hA4 : Below Z.heap.size Z (Z.alloc (.cells #[.int .i64 (ga), .bool (false), .slice none 0 0, .slice none 0 0, .slice none 0 0] 35)) := (Below.refl _ _).alloc (Nat.le_refl _) _
        have HBW := Lib.hid (below_grown ((Below.refl w.heap.size Z).alloc hwz (.cells #[.int .i64 (ga), .bool (false), .slice none 0 0, .slice none 0 0, .slice none 0 0] 35)) HO.out (Nat.le_refl _) hwz hgrow4)
        have HKB : Hid (KB 35 Z w4) := (KB.of_below 35 hA4).trans (KB.grown (HO.out.alloc _) hgrow4)
        have HO4 := Lib.hid hown4
        clear hown4 hgrow4 hA4 z0 z1 z2 z3 z4
        go_wp2_with fail
        go_roundg (gk - 1)
        case measure => omega
        case rel =>
          have hel2 : (tell (ltO o) (verOf vs ⟨3, on, key, val, moves⟩) ⟨3, on, key, val, moves⟩) = ⟨ga, false, [], [], []⟩ := by rw [HVO.out]; unfold tell; rw [if_neg (by show ¬ (3 : Nat) = 2; omega), if_pos rfl, HGA.out]
          have hnx : next (ltO o) vs ⟨3, on, key, val, moves⟩ = vs := rfl
          refine ⟨j + 1, vs, ts ++ [⟨ga, false, [], [], []⟩], by omega, rfl, (HGN.out.2.1.kb HKB.out own35 (by decide) (by decide)).more, ?_, ?_, ?_, ?_, ?_, ?_⟩
          · refine told_snoc (r := (.slice none 0 0, .slice none 0 0, .slice none 0 0)) HQ.out.1 (by rw [← HNT.out]; exact HO4.out) (fun i t r ht hr => ?_) ?_
            · obtain ⟨k1, k2, k3⟩ := HQ.out.2 i t r ht hr
              exact ⟨k1.kb (by decide) HKB.out, k2.kb (by decide) HKB.out, k3.kb (by decide) HKB.out⟩
            · exact ⟨IV.kb (by decide) HKB.out (IV.nil _), IV.kb (by decide) HKB.out (IV.nil _), SV.kb (by decide) HKB.out (SV.nil _)⟩
          · rw [List.length_append, HTL.out]; rfl
          · rw [← hnx, next_len]; have := HVL.out; split <;> omega
          · rw [HTO.out, run_drop HS2.out, hel2, hnx, List.append_assoc]; rfl
          · have h := HRI2.out
            have h2 := next_len (ltO o) vs ⟨3, on, key, val, moves⟩
            rw [hnx] at h2
            rw [HN5.out] at h
            rw [h2]
            exact h
          · exact HGN.out.1.trans HBW.out
      · go_wp2_with fail
        refine (iter_w (o := o) (k := j) (by omega) HMY.out).mono ?_
        rintro e w2 ⟨rfl, hb2, hst⟩
        have HST := Lib.hid hst
        have HG2 := Lib.hid (HG.out.below hb2)
        have HM2 := Lib.hid (HMY.out.below hb2)
        obtain ⟨arrI, ddI, hitb⟩ := hst.itb
        have HIL := Lib.hid (lt_of_block hitb.1)
        have HYB := Lib.hid (And.intro HG.out.1.size (lt_of_block HG.out.2.2.2.2.1))
        have HB2 := Lib.hid hb2
        have HGY := Lib.hid HG.out
        clear hst hb2 HG HMY HMVY y0 y2 y3
        go_wp2_with fail
        refine (forth_w Y.heap.size mb es w2 (by have := HEL.out; omega) HIL.out HST.out).mono ?_
        rintro e w3 ⟨kv, vv, rfl, htr, hb3⟩
        have hb23 : Below Y.heap.size Y w3 := But.below ((But.of_below HB2.out).trans hb3) (Nat.le_refl _) (fun k hk => by omega)
        have HG3 : Hid (Stg w w.heap.size o j (.slice (some ⟨g5, 0, none⟩) N5 cap5) vs u6 ts b8 #[.int .u8 4, .int .i64 (on : Int), .int .i64 key, .int .i64 val, .slice ma moves.length mcap] b10 (.int .i64 0) (.bool false) (.slice none 0 0) (.slice none 0 0) (.slice none 0 0) w3) := HGY.out.below hb23
        have HK := Lib.hid (IV.of_own (xs := (es).map (·.1)) (by rw [List.length_map]) (by unfold kcells; rw [List.map_map]; rfl) htr.1)
        have HL := Lib.hid (IV.of_own (xs := (es).map (·.2)) (by rw [List.length_map]) (by unfold vcells; rw [List.map_map]; rfl) htr.2.1)
        clear htr hb3 hb23 HG2 HM2 HST hitb
        rcases HK.out.sl with rfl | ⟨kg, kn, kc, rfl⟩
        all_goals rcases HL.out.sl with rfl | ⟨lg, ln, lc, rfl⟩
        · have z := HG3.out.c
          obtain ⟨z0, z1, z2, z3, z4⟩ := z
          have f2 := HG3.out.f 2
          have f3 := HG3.out.f 3
          go_upto_region 23 with (fail)
          have HG4 := Lib.hid (HG3.out.set 2 (.slice none 0 0) (y0 := .int .i64 0) (y1 := .bool false) (y2 := (.slice none 0 0)) (y3 := .slice none 0 0) (y4 := .slice none 0 0) rfl)
          have HGN := Lib.hid (HG4.out.set 3 (.slice none 0 0) (y0 := .int .i64 0) (y1 := .bool false) (y2 := (.slice none 0 0)) (y3 := (.slice none 0 0)) (y4 := .slice none 0 0) rfl)
          have HKN := Lib.hid ((HK.out.kb (by decide) (HG3.out.kb 2 (.slice none 0 0))).kb (by decide) (HG4.out.kb 3 (.slice none 0 0)))
          have HLN := Lib.hid ((HL.out.kb (by decide) (HG3.out.kb 2 (.slice none 0 0))).kb (by decide) (HG4.out.kb 3 (.slice none 0 0)))
          clear z0 z1 z2 z3 z4 f2 f3 HG3 HG4 HK HL
          generalize (w3.setCell ⟨b10, 2, none⟩ (.slice none 0 0)).setCell ⟨b10, 3, none⟩ (.slice none 0 0) = Z at HGN HKN HLN ⊢
          have z := HGN.out.c
          obtain ⟨z0, z1, z2, z3, z4⟩ := z
          obtain ⟨rs, q1, q2, q3⟩ := HGN.out.2.2.1
          obtain ⟨nt, hnt⟩ : ∃ nt, nt = ts.length := ⟨_, rfl⟩
          rw [← hnt] at q2
          have HNT := Lib.hid hnt
          have HO := Lib.hid q2
          have HQ := Lib.hid (And.intro q1 q3)
          have hnt2 : nt ≤ 800 := by have := HTL.out; omega
          clear q1 q2 q3 hnt
          go_wp2_with (at_builtin; refine wpList_append_own _ rfl (.tmp 95) (.tmp 97) 29 rfl w.heap.size 35 i35 (.agg #[.int .i64 0, .bool false, .slice none 0 0, .slice none 0 0, .slice none 0 0]) 5 88 Try.underlying29 HJ.out.1 HJ.out.2.1 HJ.out.2.2.1 HJ.out.2.2.2 rfl (by decide) _ _ _ rfl (HO.out.alloc _) ⟨Z.heap.size, 0, none⟩ 1 1 [.int .i64 (0), .bool (false), (.slice none 0 0), (.slice none 0 0), .slice none 0 0] rfl rfl (five_new _ _ _ _ _ _ _) (five_one rfl rfl rfl rfl rfl) (by unfold maxLen; omega) (by omega) (by have := HGN.out.1.size; rw [size_alloc]; omega) ?_)
          intro v4 w4 hown4 hgrow4 _
          have hwz : w.heap.size ≤ Z.heap.size := HGN.out.1.size
          have hA4 : Below Z.heap.size Z (Z.alloc (.cells #[.int .i64 (0), .bool (false), (.slice none 0 0), (.slice none 0 0), .slice none 0 0] 35)) := (Below.refl _ _).alloc (Nat.le_refl _) _
          have HBW := Lib.hid (below_grown ((Below.refl w.heap.size Z).alloc hwz (.cells #[.int .i64 (0), .bool (false), (.slice none 0 0), (.slice none 0 0), .slice none 0 0] 35)) HO.out (Nat.le_refl _) hwz hgrow4)
          have HKB : Hid (KB 35 Z w4) := (KB.of_below 35 hA4).trans (KB.grown (HO.out.alloc _) hgrow4)
          have HO4 := Lib.hid hown4
          clear hown4 hgrow4 hA4 z0 z1 z2 z3 z4
          go_wp2_with fail
          go_roundg (gk - 1)
          case measure => omega
          case rel =>
            have hel2 : (tell (ltO o) (verOf vs ⟨4, on, key, val, moves⟩) ⟨4, on, key, val, moves⟩) = ⟨0, false, (es).map (·.1), (es).map (·.2), []⟩ := by rw [HVO.out]; rfl
            have hnx : next (ltO o) vs ⟨4, on, key, val, moves⟩ = vs := rfl
            refine ⟨j + 1, vs, ts ++ [⟨0, false, (es).map (·.1), (es).map (·.2), []⟩], by omega, rfl, (HGN.out.2.1.kb HKB.out own35 (by decide) (by decide)).more, ?_, ?_, ?_, ?_, ?_, ?_⟩
            · refine told_snoc (r := ((.slice none 0 0), (.slice none 0 0), .slice none 0 0)) HQ.out.1 (by rw [← HNT.out]; exact HO4.out) (fun i t r ht hr => ?_) ?_
              · obtain ⟨k1, k2, k3⟩ := HQ.out.2 i t r ht hr
                exact ⟨k1.kb (by decide) HKB.out, k2.kb (by decide) HKB.out, k3.kb (by decide) HKB.out⟩
              · exact ⟨IV.kb (by decide) HKB.out HKN.out, IV.kb (by decide) HKB.out HLN.out, SV.kb (by decide) HKB.out (SV.nil _)⟩
            · rw [List.length_append, HTL.out]; rfl
            · rw [← hnx, next_len]; have := HVL.out; split <;> omega
            · rw [HTO.out, run_drop HS2.out, hel2, hnx, List.append_assoc]; rfl
            · have h := HRI2.out
              have h2 := next_len (ltO o) vs ⟨4, on, key, val, moves⟩
              rw [hnx] at h2
              rw [HN5.out] at h
              rw [h2]
              exact h
            · exact HGN.out.1.trans HBW.out
        · have z := HG3.out.c
          obtain ⟨z0, z1, z2, z3, z4⟩ := z
          have f2 := HG3.out.f 2
          have f3 := HG3.out.f 3
          go_upto_region 23 with (fail)
          have HG4 := Lib.hid (HG3.out.set 2 (.slice none 0 0) (y0 := .int .i64 0) (y1 := .bool false) (y2 := (.slice none 0 0)) (y3 := .slice none 0 0) (y4 := .slice none 0 0) rfl)
          have HGN := Lib.hid (HG4.out.set 3 (.slice (some ⟨lg, 0, none⟩) ln lc) (y0 := .int .i64 0) (y1 := .bool false) (y2 := (.slice none 0 0)) (y3 := (.slice (some ⟨lg, 0, none⟩) ln lc)) (y4 := .slice none 0 0) rfl)
          have HKN := Lib.hid ((HK.out.kb (by decide) (HG3.out.kb 2 (.slice none 0 0))).kb (by decide) (HG4.out.kb 3 (.slice (some ⟨lg, 0, none⟩) ln lc)))
          have HLN := Lib.hid ((HL.out.kb (by decide) (HG3.out.kb 2 (.slice none 0 0))).kb (by decide) (HG4.out.kb 3 (.slice (some ⟨lg, 0, none⟩) ln lc)))
          clear z0 z1 z2 z3 z4 f2 f3 HG3 HG4 HK HL
          generalize (w3.setCell ⟨b10, 2, none⟩ (.slice none 0 0)).setCell ⟨b10, 3, none⟩ (.slice (some ⟨lg, 0, none⟩) ln lc) = Z at HGN HKN HLN ⊢
          have z := HGN.out.c
          obtain ⟨z0, z1, z2, z3, z4⟩ := z
          obtain ⟨rs, q1, q2, q3⟩ := HGN.out.2.2.1
          obtain ⟨nt, hnt⟩ : ∃ nt, nt = ts.length := ⟨_, rfl⟩
          rw [← hnt] at q2
          have HNT := Lib.hid hnt
          have HO := Lib.hid q2
          have HQ := Lib.hid (And.intro q1 q3)
          have hnt2 : nt ≤ 800 := by have := HTL.out; omega
          clear q1 q2 q3 hnt
          go_wp2_with (at_builtin; refine wpList_append_own _ rfl (.tmp 95) (.tmp 97) 29 rfl w.heap.size 35 i35 (.agg #[.int .i64 0, .bool false, .slice none 0 0, .slice none 0 0, .slice none 0 0]) 5 88 Try.underlying29 HJ.out.1 HJ.out.2.1 HJ.out.2.2.1 HJ.out.2.2.2 rfl (by decide) _ _ _ rfl (HO.out.alloc _) ⟨Z.heap.size, 0, none⟩ 1 1 [.int .i64 (0), .bool (false), (.slice none 0 0), (.slice (some ⟨lg, 0, none⟩) ln lc), .slice none 0 0] rfl rfl (five_new _ _ _ _ _ _ _) (five_one rfl rfl rfl rfl rfl) (by unfold maxLen; omega) (by omega) (by have := HGN.out.1.size; rw [size_alloc]; omega) ?_)
          intro v4 w4 hown4 hgrow4 _
          have hwz : w.heap.size ≤ Z.heap.size := HGN.out.1.size
          have hA4 : Below Z.heap.size Z (Z.alloc (.cells #[.int .i64 (0), .bool (false), (.slice none 0 0), (.slice (some ⟨lg, 0, none⟩) ln lc), .slice none 0 0] 35)) := (Below.refl _ _).alloc (Nat.le_refl _) _
          have HBW := Lib.hid (below_grown ((Below.refl w.heap.size Z).alloc hwz (.cells #[.int .i64 (0), .bool (false), (.slice none 0 0), (.slice (some ⟨lg, 0, none⟩) ln lc), .slice none 0 0] 35)) HO.out (Nat.le_refl _) hwz hgrow4)
          have HKB : Hid (KB 35 Z w4) := (KB.of_below 35 hA4).trans (KB.grown (HO.out.alloc _) hgrow4)
          have HO4 := Lib.hid hown4
          clear hown4 hgrow4 hA4 z0 z1 z2 z3 z4
          go_wp2_with fail
          go_roundg (gk - 1)
          case measure => omega
          case rel =>
            have hel2 : (tell (ltO o) (verOf vs ⟨4, on, key, val, moves⟩) ⟨4, on, key, val, moves⟩) = ⟨0, false, (es).map (·.1), (es).map (·.2), []⟩ := by rw [HVO.out]; rfl
            have hnx : next (ltO o) vs ⟨4, on, key, val, moves⟩ = vs := rfl
            refine ⟨j + 1, vs, ts ++ [⟨0, false, (es).map (·.1), (es).map (·.2), []⟩], by omega, rfl, (HGN.out.2.1.kb HKB.out own35 (by decide) (by decide)).more, ?_, ?_, ?_, ?_, ?_, ?_⟩
            · refine told_snoc (r := ((.slice none 0 0), (.slice (some ⟨lg, 0, none⟩) ln lc), .slice none 0 0)) HQ.out.1 (by rw [← HNT.out]; exact HO4.out) (fun i t r ht hr => ?_) ?_
              · obtain ⟨k1, k2, k3⟩ := HQ.out.2 i t r ht hr
                exact ⟨k1.kb (by decide) HKB.out, k2.kb (by decide) HKB.out, k3.kb (by decide) HKB.out⟩
              · exact ⟨IV.kb (by decide) HKB.out HKN.out, IV.kb (by decide) HKB.out HLN.out, SV.kb (by decide) HKB.out (SV.nil _)⟩
            · rw [List.length_append, HTL.out]; rfl
            · rw [← hnx, next_len]; have := HVL.out; split <;> omega
            · rw [HTO.out, run_drop HS2.out, hel2, hnx, List.append_assoc]; rfl
            · have h := HRI2.out
              have h2 := next_len (ltO o) vs ⟨4, on, key, val, moves⟩
              rw [hnx] at h2
              rw [HN5.out] at h
              rw [h2]
              exact h
            · exact HGN.out.1.trans HBW.out
        · have z := HG3.out.c
          obtain ⟨z0, z1, z2, z3, z4⟩ := z
          have f2 := HG3.out.f 2
          have f3 := HG3.out.f 3
          go_upto_region 23 with (fail)
          have HG4 := Lib.hid (HG3.out.set 2 (.slice (some ⟨kg, 0, none⟩) kn kc) (y0 := .int .i64 0) (y1 := .bool false) (y2 := (.slice (some ⟨kg, 0, none⟩) kn kc)) (y3 := .slice none 0 0) (y4 := .slice none 0 0) rfl)
          have HGN := Lib.hid (HG4.out.set 3 (.slice none 0 0) (y0 := .int .i64 0) (y1 := .bool false) (y2 := (.slice (some ⟨kg, 0, none⟩) kn kc)) (y3 := (.slice none 0 0)) (y4 := .slice none 0 0) rfl)
          have HKN := Lib.hid ((HK.out.kb (by decide) (HG3.out.kb 2 (.slice (some ⟨kg, 0, none⟩) kn kc))).kb (by decide) (HG4.out.kb 3 (.slice none 0 0)))
          have HLN := Lib.hid ((HL.out.kb (by decide) (HG3.out.kb 2 (.slice (some ⟨kg, 0, none⟩) kn kc))).kb (by decide) (HG4.out.kb 3 (.slice none 0 0)))
          clear z0 z1 z2 z3 z4 f2 f3 HG3 HG4 HK HL
          generalize (w3.setCell ⟨b10, 2, none⟩ (.slice (some ⟨kg, 0, none⟩) kn kc)).setCell ⟨b10, 3, none⟩ (.slice none 0 0) = Z at HGN HKN HLN ⊢
          have z := HGN.out.c
          obtain ⟨z0, z1, z2, z3, z4⟩ := z
          obtain ⟨rs, q1, q2, q3⟩ := HGN.out.2.2.1
          obtain ⟨nt, hnt⟩ : ∃ nt, nt = ts.length := ⟨_, rfl⟩
          rw [← hnt] at q2
          have HNT := Lib.hid hnt
          have HO := Lib.hid q2
          have HQ := Lib.hid (And.intro q1 q3)
          have hnt2 : nt ≤ 800 := by have := HTL.out; omega
          clear q1 q2 q3 hnt
          go_wp2_with (at_builtin; refine wpList_append_own _ rfl (.tmp 95) (.tmp 97) 29 rfl w.heap.size 35 i35 (.agg #[.int .i64 0, .bool false, .slice none 0 0, .slice none 0 0, .slice none 0 0]) 5 88 Try.underlying29 HJ.out.1 HJ.out.2.1 HJ.out.2.2.1 HJ.out.2.2.2 rfl (by decide) _ _ _ rfl (HO.out.alloc _) ⟨Z.heap.size, 0, none⟩ 1 1 [.int .i64 (0), .bool (false), (.slice (some ⟨kg, 0, none⟩) kn kc), (.slice none 0 0), .slice none 0 0] rfl rfl (five_new _ _ _ _ _ _ _) (five_one rfl rfl rfl rfl rfl) (by unfold maxLen; omega) (by omega) (by have := HGN.out.1.size; rw [size_alloc]; omega) ?_)
          intro v4 w4 hown4 hgrow4 _
          have hwz : w.heap.size ≤ Z.heap.size := HGN.out.1.size
          have hA4 : Below Z.heap.size Z (Z.alloc (.cells #[.int .i64 (0), .bool (false), (.slice (some ⟨kg, 0, none⟩) kn kc), (.slice none 0 0), .slice none 0 0] 35)) := (Below.refl _ _).alloc (Nat.le_refl _) _
          have HBW := Lib.hid (below_grown ((Below.refl w.heap.size Z).alloc hwz (.cells #[.int .i64 (0), .bool (false), (.slice (some ⟨kg, 0, none⟩) kn kc), (.slice none 0 0), .slice none 0 0] 35)) HO.out (Nat.le_refl _) hwz hgrow4)
          have HKB : Hid (KB 35 Z w4) := (KB.of_below 35 hA4).trans (KB.grown (HO.out.alloc _) hgrow4)
          have HO4 := Lib.hid hown4
          clear hown4 hgrow4 hA4 z0 z1 z2 z3 z4
          go_wp2_with fail
          go_roundg (gk - 1)
          case measure => omega
          case rel =>
            have hel2 : (tell (ltO o) (verOf vs ⟨4, on, key, val, moves⟩) ⟨4, on, key, val, moves⟩) = ⟨0, false, (es).map (·.1), (es).map (·.2), []⟩ := by rw [HVO.out]; rfl
            have hnx : next (ltO o) vs ⟨4, on, key, val, moves⟩ = vs := rfl
            refine ⟨j + 1, vs, ts ++ [⟨0, false, (es).map (·.1), (es).map (·.2), []⟩], by omega, rfl, (HGN.out.2.1.kb HKB.out own35 (by decide) (by decide)).more, ?_, ?_, ?_, ?_, ?_, ?_⟩
            · refine told_snoc (r := ((.slice (some ⟨kg, 0, none⟩) kn kc), (.slice none 0 0), .slice none 0 0)) HQ.out.1 (by rw [← HNT.out]; exact HO4.out) (fun i t r ht hr => ?_) ?_
              · obtain ⟨k1, k2, k3⟩ := HQ.out.2 i t r ht hr
                exact ⟨k1.kb (by decide) HKB.out, k2.kb (by decide) HKB.out, k3.kb (by decide) HKB.out⟩
              · exact ⟨IV.kb (by decide) HKB.out HKN.out, IV.kb (by decide) HKB.out HLN.out, SV.kb (by decide) HKB.out (SV.nil _)⟩
            · rw [List.length_append, HTL.out]; rfl
            · rw [← hnx, next_len]; have := HVL.out; split <;> omega
            · rw [HTO.out, run_drop HS2.out, hel2, hnx, List.append_assoc]; rfl
            · have h := HRI2.out
              have h2 := next_len (ltO o) vs ⟨4, on, key, val, moves⟩
              rw [hnx] at h2
              rw [HN5.out] at h
              rw [h2]
              exact h
            · exact HGN.out.1.trans HBW.out
        · have z := HG3.out.c
          obtain ⟨z0, z1, z2, z3, z4⟩ := z
          have f2 := HG3.out.f 2
          have f3 := HG3.out.f 3
          go_upto_region 23 with (fail)
          have HG4 := Lib.hid (HG3.out.set 2 (.slice (some ⟨kg, 0, none⟩) kn kc) (y0 := .int .i64 0) (y1 := .bool false) (y2 := (.slice (some ⟨kg, 0, none⟩) kn kc)) (y3 := .slice none 0 0) (y4 := .slice none 0 0) rfl)
          have HGN := Lib.hid (HG4.out.set 3 (.slice (some ⟨lg, 0, none⟩) ln lc) (y0 := .int .i64 0) (y1 := .bool false) (y2 := (.slice (some ⟨kg, 0, none⟩) kn kc)) (y3 := (.slice (some ⟨lg, 0, none⟩) ln lc)) (y4 := .slice none 0 0) rfl)
          have HKN := Lib.hid ((HK.out.kb (by decide) (HG3.out.kb 2 (.slice (some ⟨kg, 0, none⟩) kn kc))).kb (by decide) (HG4.out.kb 3 (.slice (some ⟨lg, 0, none⟩) ln lc)))
          have HLN := Lib.hid ((HL.out.kb (by decide) (HG3.out.kb 2 (.slice (some ⟨kg, 0, none⟩) kn kc))).kb (by decide) (HG4.out.kb 3 (.slice (some ⟨lg, 0, none⟩) ln lc)))
          clear z0 z1 z2 z3 z4 f2 f3 HG3 HG4 HK HL
          generalize (w3.setCell ⟨b10, 2, none⟩ (.slice (some ⟨kg, 0, none⟩) kn kc)).setCell ⟨b10, 3, none⟩ (.slice (some ⟨lg, 0, none⟩) ln lc) = Z at HGN HKN HLN ⊢
          have z := HGN.out.c
          obtain ⟨z0, z1, z2, z3, z4⟩ := z
          obtain ⟨rs, q1, q2, q3⟩ := HGN.out.2.2.1
          obtain ⟨nt, hnt⟩ : ∃ nt, nt = ts.length := ⟨_, rfl⟩
          rw [← hnt] at q2
          have HNT := Lib.hid hnt
          have HO := Lib.hid q2
          have HQ := Lib.hid (And.intro q1 q3)
          have hnt2 : nt ≤ 800 := by have := HTL.out; omega
          clear q1 q2 q3 hnt
          go_wp2_with (at_builtin; refine wpList_append_own _ rfl (.tmp 95) (.tmp 97) 29 rfl w.heap.size 35 i35 (.agg #[.int .i64 0, .bool false, .slice none 0 0, .slice none 0 0, .slice none 0 0]) 5 88 Try.underlying29 HJ.out.1 HJ.out.2.1 HJ.out.2.2.1 HJ.out.2.2.2 rfl (by decide) _ _ _ rfl (HO.out.alloc _) ⟨Z.heap.size, 0, none⟩ 1 1 [.int .i64 (0), .bool (false), (.slice (some ⟨kg, 0, none⟩) kn kc), (.slice (some ⟨lg, 0, none⟩) ln lc), .slice none 0 0] rfl rfl (five_new _ _ _ _ _ _ _) (five_one rfl rfl rfl rfl rfl) (by unfold maxLen; omega) (by omega) (by have := HGN.out.1.size; rw [size_alloc]; omega) ?_)
          intro v4 w4 hown4 hgrow4 _
          have hwz : w.heap.size ≤ Z.heap.size := HGN.out.1.size
          have hA4 : Below Z.heap.size Z (Z.alloc (.cells #[.int .i64 (0), .bool (false), (.slice (some ⟨kg, 0, none⟩) kn kc), (.slice (some ⟨lg, 0, none⟩) ln lc), .slice none 0 0] 35)) := (Below.refl _ _).alloc (Nat.le_refl _) _
          have HBW := Lib.hid (below_grown ((Below.refl w.heap.size Z).alloc hwz (.cells #[.int .i64 (0), .bool (false), (.slice (some ⟨kg, 0, none⟩) kn kc), (.slice (some ⟨lg, 0, none⟩) ln lc), .slice none 0 0] 35)) HO.out (Nat.le_refl _) hwz hgrow4)
          have HKB : Hid (KB 35 Z w4) := (KB.of_below 35 hA4).trans (KB.grown (HO.out.alloc _) hgrow4)
          have HO4 := Lib.hid hown4
          clear hown4 hgrow4 hA4 z0 z1 z2 z3 z4
          go_wp2_with fail
          go_roundg (gk - 1)
          case measure => omega
          case rel =>
            have hel2 : (tell (ltO o) (verOf vs ⟨4, on, key, val, moves⟩) ⟨4, on, key, val, moves⟩) = ⟨0, false, (es).map (·.1), (es).map (·.2), []⟩ := by rw [HVO.out]; rfl
            have hnx : next (ltO o) vs ⟨4, on, key, val, moves⟩ = vs := rfl
            refine ⟨j + 1, vs, ts ++ [⟨0, false, (es).map (·.1), (es).map (·.2), []⟩], by omega, rfl, (HGN.out.2.1.kb HKB.out own35 (by decide) (by decide)).more, ?_, ?_, ?_, ?_, ?_, ?_⟩
            · refine told_snoc (r := ((.slice (some ⟨kg, 0, none⟩) kn kc), (.slice (some ⟨lg, 0, none⟩) ln lc), .slice none 0 0)) HQ.out.1 (by rw [← HNT.out]; exact HO4.out) (fun i t r ht hr => ?_) ?_
              · obtain ⟨k1, k2, k3⟩ := HQ.out.2 i t r ht hr
                exact ⟨k1.kb (by decide) HKB.out, k2.kb (by decide) HKB.out, k3.kb (by decide) HKB.out⟩
              · exact ⟨IV.kb (by decide) HKB.out HKN.out, IV.kb (by decide) HKB.out HLN.out, SV.kb (by decide) HKB.out (SV.nil _)⟩
            · rw [List.length_append, HTL.out]; rfl
            · rw [← hnx, next_len]; have := HVL.out; split <;> omega
            · rw [HTO.out, run_drop HS2.out, hel2, hnx, List.append_assoc]; rfl
            · have h := HRI2.out
              have h2 := next_len (ltO o) vs ⟨4, on, key, val, moves⟩
              rw [hnx] at h2
              rw [HN5.out] at h
              rw [h2]
              exact h
            · exact HGN.out.1.trans HBW.out
      · go_wp2_with fail
        refine (iter_w (o := o) (k := j) (by omega) HMY.out).mono ?_
        rintro e w2 ⟨rfl, hb2, hst⟩
        have HST := Lib.hid hst
        have HG2 := Lib.hid (HG.out.below hb2)
        have HM2 := Lib.hid (HMY.out.below hb2)
        obtain ⟨arrI, ddI, hitb⟩ := hst.itb
        have HIL := Lib.hid (lt_of_block hitb.1)
        have HYB := Lib.hid (And.intro HG.out.1.size (lt_of_block HG.out.2.2.2.2.1))
        have HB2 := Lib.hid hb2
        have HGY := Lib.hid HG.out
        clear hst hb2 HG HMY HMVY y0 y2 y3
        go_wp2_with fail
        refine (back_w o j Y.heap.size mb es w2 (by have := HEL.out; omega) HIL.out (by omega) arrI ddI hitb HM2.out).mono ?_
        rintro e w3 ⟨kv, vv, rfl, htr, hb3⟩
        have hb23 : Below Y.heap.size Y w3 := But.below ((But.of_below HB2.out).trans hb3) (Nat.le_refl _) (fun k hk => by omega)
        have HG3 : Hid (Stg w w.heap.size o j (.slice (some ⟨g5, 0, none⟩) N5 cap5) vs u6 ts b8 #[.int .u8 5, .int .i64 (on : Int), .int .i64 key, .int .i64 val, .slice ma moves.length mcap] b10 (.int .i64 0) (.bool false) (.slice none 0 0) (.slice none 0 0) (.slice none 0 0) w3) := HGY.out.below hb23
        have HK := Lib.hid (IV.of_own (xs := (es.reverse).map (·.1)) (by rw [List.length_map]) (by unfold kcells; rw [List.map_map]; rfl) htr.1)
        have HL := Lib.hid (IV.of_own (xs := (es.reverse).map (·.2)) (by rw [List.length_map]) (by unfold vcells; rw [List.map_map]; rfl) htr.2.1)
        clear htr hb3 hb23 HG2 HM2 HST hitb
        rcases HK.out.sl with rfl | ⟨kg, kn, kc, rfl⟩
        all_goals rcases HL.out.sl with rfl | ⟨lg, ln, lc, rfl⟩
        · have z := HG3.out.c
          obtain ⟨z0, z1, z2, z3, z4⟩ := z
          have f2 := HG3.out.f 2
          have f3 := HG3.out.f 3
          go_upto_region 23 with (fail)
          have HG4 := Lib.hid (HG3.out.set 2 (.slice none 0 0) (y0 := .int .i64 0) (y1 := .bool false) (y2 := (.slice none 0 0)) (y3 := .slice none 0 0) (y4 := .slice none 0 0) rfl)
          have HGN := Lib.hid (HG4.out.set 3 (.slice none 0 0) (y0 := .int .i64 0) (y1 := .bool false) (y2 := (.slice none 0 0)) (y3 := (.slice none 0 0)) (y4 := .slice none 0 0) rfl)
          have HKN := Lib.hid ((HK.out.kb (by decide) (HG3.out.kb 2 (.slice none 0 0))).kb (by decide) (HG4.out.kb 3 (.slice none 0 0)))
          have HLN := Lib.hid ((HL.out.kb (by decide) (HG3.out.kb 2 (.slice none 0 0))).kb (by decide) (HG4.out.kb 3 (.slice none 0 0)))
          clear z0 z1 z2 z3 z4 f2 f3 HG3 HG4 HK HL
          generalize (w3.setCell ⟨b10, 2, none⟩ (.slice none 0 0)).setCell ⟨b10, 3, none⟩ (.slice none 0 0) = Z at HGN HKN HLN ⊢
          have z := HGN.out.c
          obtain ⟨z0, z1, z2, z3, z4⟩ := z
          obtain ⟨rs, q1, q2, q3⟩ := HGN.out.2.2.1
          obtain ⟨nt, hnt⟩ : ∃ nt, nt = ts.length := ⟨_, rfl⟩
          rw [← hnt] at q2
          have HNT := Lib.hid hnt
          have HO := Lib.hid q2
          have HQ := Lib.hid (And.intro q1 q3)
          have hnt2 : nt ≤ 800 := by have := HTL.out; omega
          clear q1 q2 q3 hnt
          go_wp2_with (at_builtin; refine wpList_append_own _ rfl (.tmp 95) (.tmp 97) 29 rfl w.heap.size 35 i35 (.agg #[.int .i64 0, .bool false, .slice none 0 0, .slice none 0 0, .slice none 0 0]) 5 88 Try.underlying29 HJ.out.1 HJ.out.2.1 HJ.out.2.2.1 HJ.out.2.2.2 rfl (by decide) _ _ _ rfl (HO.out.alloc _) ⟨Z.heap.size, 0, none⟩ 1 1 [.int .i64 (0), .bool (false), (.slice none 0 0), (.slice none 0 0), .slice none 0 0] rfl rfl (five_new _ _ _ _ _ _ _) (five_one rfl rfl rfl rfl rfl) (by unfold maxLen; omega) (by omega) (by have := HGN.out.1.size; rw [size_alloc]; omega) ?_)
          intro v4 w4 hown4 hgrow4 _
          have hwz : w.heap.size ≤ Z.heap.size := HGN.out.1.size
          have hA4 : Below Z.heap.size Z (Z.alloc (.cells #[.int .i64 (0), .bool (false), (.slice none 0 0), (.slice none 0 0), .slice none 0 0] 35)) := (Below.refl _ _).alloc (Nat.le_refl _) _
          have HBW := Lib.hid (below_grown ((Below.refl w.heap.size Z).alloc hwz (.cells #[.int .i64 (0), .bool (false), (.slice none 0 0), (.slice none 0 0), .slice none 0 0] 35)) HO.out (Nat.le_refl _) hwz hgrow4)
          have HKB : Hid (KB 35 Z w4) := (KB.of_below 35 hA4).trans (KB.grown (HO.out.alloc _) hgrow4)
          have HO4 := Lib.hid hown4
          clear hown4 hgrow4 hA4 z0 z1 z2 z3 z4
          go_wp2_with fail
          go_roundg (gk - 1)
          case measure => omega
          case rel =>
            have hel2 : (tell (ltO o) (verOf vs ⟨5, on, key, val, moves⟩) ⟨5, on, key, val, moves⟩) = ⟨0, false, (es.reverse).map (·.1), (es.reverse).map (·.2), []⟩ := by rw [HVO.out]; rfl
            have hnx : next (ltO o) vs ⟨5, on, key, val, moves⟩ = vs := rfl
            refine ⟨j + 1, vs, ts ++ [⟨0, false, (es.reverse).map (·.1), (es.reverse).map (·.2), []⟩], by omega, rfl, (HGN.out.2.1.kb HKB.out own35 (by decide) (by decide)).more, ?_, ?_, ?_, ?_, ?_, ?_⟩
            · refine told_snoc (r := ((.slice none 0 0), (.slice none 0 0), .slice none 0 0)) HQ.out.1 (by rw [← HNT.out]; exact HO4.out) (fun i t r ht hr => ?_) ?_
              · obtain ⟨k1, k2, k3⟩ := HQ.out.2 i t r ht hr
                exact ⟨k1.kb (by decide) HKB.out, k2.kb (by decide) HKB.out, k3.kb (by decide) HKB.out⟩
              · exact ⟨IV.kb (by decide) HKB.out HKN.out, IV.kb (by decide) HKB.out HLN.out, SV.kb (by decide) HKB.out (SV.nil _)⟩
            · rw [List.length_append, HTL.out]; rfl
            · rw [← hnx, next_len]; have := HVL.out; split <;> omega
            · rw [HTO.out, run_drop HS2.out, hel2, hnx, List.append_assoc]; rfl
            · have h := HRI2.out
              have h2 := next_len (ltO o) vs ⟨5, on, key, val, moves⟩
              rw [hnx] at h2
              rw [HN5.out] at h
              rw [h2]
              exact h
            · exact HGN.out.1.trans HBW.out
        · have z := HG3.out.c
          obtain ⟨z0, z1, z2, z3, z4⟩ := z
          have f2 := HG3.out.f 2
          have f3 := HG3.out.f 3
          go_upto_region 23 with (fail)
          have HG4 := Lib.hid (HG3.out.set 2 (.slice none 0 0) (y0 := .int .i64 0) (y1 := .bool false) (y2 := (.slice none 0 0)) (y3 := .slice none 0 0) (y4 := .slice none 0 0) rfl)
          have HGN := Lib.hid (HG4.out.set 3 (.slice (some ⟨lg, 0, none⟩) ln lc) (y0 := .int .i64 0) (y1 := .bool false) (y2 := (.slice none 0 0)) (y3 := (.slice (some ⟨lg, 0, none⟩) ln lc)) (y4 := .slice none 0 0) rfl)
          have HKN := Lib.hid ((HK.out.kb (by decide) (HG3.out.kb 2 (.slice none 0 0))).kb (by decide) (HG4.out.kb 3 (.slice (some ⟨lg, 0, none⟩) ln lc)))
          have HLN := Lib.hid ((HL.out.kb (by decide) (HG3.out.kb 2 (.slice none 0 0))).kb (by decide) (HG4.out.kb 3 (.slice (some ⟨lg, 0, none⟩) ln lc)))
          clear z0 z1 z2 z3 z4 f2 f3 HG3 HG4 HK HL
          generalize (w3.setCell ⟨b10, 2, none⟩ (.slice none 0 0)).setCell ⟨b10, 3, none⟩ (.slice (some ⟨lg, 0, none⟩) ln lc) = Z at HGN HKN HLN ⊢
          have z := HGN.out.c
          obtain ⟨z0, z1, z2, z3, z4⟩ := z
          obtain ⟨rs, q1, q2, q3⟩ := HGN.out.2.2.1
          obtain ⟨nt, hnt⟩ : ∃ nt, nt = ts.length := ⟨_, rfl⟩
          rw [← hnt] at q2
          have HNT := Lib.hid hnt
          have HO := Lib.hid q2
          have HQ := Lib.hid (And.intro q1 q3)
          have hnt2 : nt ≤ 800 := by have := HTL.out; omega
          clear q1 q2 q3 hnt
          go_wp2_with (at_builtin; refine wpList_append_own _ rfl (.tmp 95) (.tmp 97) 29 rfl w.heap.size 35 i35 (.agg #[.int .i64 0, .bool false, .slice none 0 0, .slice none 0 0, .slice none 0 0]) 5 88 Try.underlying29 HJ.out.1 HJ.out.2.1 HJ.out.2.2.1 HJ.out.2.2.2 rfl (by decide) _ _ _ rfl (HO.out.alloc _) ⟨Z.heap.size, 0, none⟩ 1 1 [.int .i64 (0), .bool (false), (.slice none 0 0), (.slice (some ⟨lg, 0, none⟩) ln lc), .slice none 0 0] rfl rfl (five_new _ _ _ _ _ _ _) (five_one rfl rfl rfl rfl rfl) (by unfold maxLen; omega) (by omega) (by have := HGN.out.1.size; rw [size_alloc]; omega) ?_)
          intro v4 w4 hown4 hgrow4 _
          have hwz : w.heap.size ≤ Z.heap.size := HGN.out.1.size
          have hA4 : Below Z.heap.size Z (Z.alloc (.cells #[.int .i64 (0), .bool (false), (.slice none 0 0), (.slice (some ⟨lg, 0, none⟩) ln lc), .slice none 0 0] 35)) := (Below.refl _ _).alloc (Nat.le_refl _) _
          have HBW := Lib.hid (below_grown ((Below.refl w.heap.size Z).alloc hwz (.cells #[.int .i64 (0), .bool (false), (.slice none 0 0), (.slice (some ⟨lg, 0, none⟩) ln lc), .slice none 0 0] 35)) HO.out (Nat.le_refl _) hwz hgrow4)
          have HKB : Hid (KB 35 Z w4) := (KB.of_below 35 hA4).trans (KB.grown (HO.out.alloc _) hgrow4)
          have HO4 := Lib.hid hown4
          clear hown4 hgrow4 hA4 z0 z1 z2 z3 z4
          go_wp2_with fail
          go_roundg (gk - 1)
          case measure => omega
          case rel =>
            have hel2 : (tell (ltO o) (verOf vs ⟨5, on, key, val, moves⟩) ⟨5, on, key, val, moves⟩) = ⟨0, false, (es.reverse).map (·.1), (es.reverse).map (·.2), []⟩ := by rw [HVO.out]; rfl
            have hnx : next (ltO o) vs ⟨5, on, key, val, moves⟩ = vs := rfl
            refine ⟨j + 1, vs, ts ++ [⟨0, false, (es.reverse).map (·.1), (es.reverse).map (·.2), []⟩], by omega, rfl, (HGN.out.2.1.kb HKB.out own35 (by decide) (by decide)).more, ?_, ?_, ?_, ?_, ?_, ?_⟩
            · refine told_snoc (r := ((.slice none 0 0), (.slice (some ⟨lg, 0, none⟩) ln lc), .slice none 0 0)) HQ.out.1 (by rw [← HNT.out]; exact HO4.out) (fun i t r ht hr => ?_) ?_
              · obtain ⟨k1, k2, k3⟩ := HQ.out.2 i t r ht hr
                exact ⟨k1.kb (by decide) HKB.out, k2.kb (by decide) HKB.out, k3.kb (by decide) HKB.out⟩
              · exact ⟨IV.kb (by decide) HKB.out HKN.out, IV.kb (by decide) HKB.out HLN.out, SV.kb (by decide) HKB.out (SV.nil _)⟩
            · rw [List.length_append, HTL.out]; rfl
            · rw [← hnx, next_len]; have := HVL.out; split <;> omega
            · rw [HTO.out, run_drop HS2.out, hel2, hnx, List.append_assoc]; rfl
            · have h := HRI2.out
              have h2 := next_len (ltO o) vs ⟨5, on, key, val, moves⟩
              rw [hnx] at h2
              rw [HN5.out] at h
              rw [h2]
              exact h
            · exact HGN.out.1.trans HBW.out
        · have z := HG3.out.c
          obtain ⟨z0, z1, z2, z3, z4⟩ := z
          have f2 := HG3.out.f 2
          have f3 := HG3.out.f 3
          go_upto_region 23 with (fail)
          have HG4 := Lib.hid (HG3.out.set 2 (.slice (some ⟨kg, 0, none⟩) kn kc) (y0 := .int .i64 0) (y1 := .bool false) (y2 := (.slice (some ⟨kg, 0, none⟩) kn kc)) (y3 := .slice none 0 0) (y4 := .slice none 0 0) rfl)
          have HGN := Lib.hid (HG4.out.set 3 (.slice none 0 0) (y0 := .int .i64 0) (y1 := .bool false) (y2 := (.slice (some ⟨kg, 0, none⟩) kn kc)) (y3 := (.slice none 0 0)) (y4 := .slice none 0 0) rfl)
          have HKN := Lib.hid ((HK.out.kb (by decide) (HG3.out.kb 2 (.slice (some ⟨kg, 0, none⟩) kn kc))).kb (by decide) (HG4.out.kb 3 (.slice none 0 0)))
          have HLN := Lib.hid ((HL.out.kb (by decide) (HG3.out.kb 2 (.slice (some ⟨kg, 0, none⟩) kn kc))).kb (by decide) (HG4.out.kb 3 (.slice none 0 0)))
          clear z0 z1 z2 z3 z4 f2 f3 HG3 HG4 HK HL
          generalize (w3.setCell ⟨b10, 2, none⟩ (.slice (some ⟨kg, 0, none⟩) kn kc)).setCell ⟨b10, 3, none⟩ (.slice none 0 0) = Z at HGN HKN HLN ⊢
          have z := HGN.out.c
          obtain ⟨z0, z1, z2, z3, z4⟩ := z
          obtain ⟨rs, q1, q2, q3⟩ := HGN.out.2.2.1
          obtain ⟨nt, hnt⟩ : ∃ nt, nt = ts.length := ⟨_, rfl⟩
          rw [← hnt] at q2
          have HNT := Lib.hid hnt
          have HO := Lib.hid q2
          have HQ := Lib.hid (And.intro q1 q3)
          have hnt2 : nt ≤ 800 := by have := HTL.out; omega
          clear q1 q2 q3 hnt
          go_wp2_with (at_builtin; refine wpList_append_own _ rfl (.tmp 95) (.tmp 97) 29 rfl w.heap.size 35 i35 (.agg #[.int .i64 0, .bool false, .slice none 0 0, .slice none 0 0, .slice none 0 0]) 5 88 Try.underlying29 HJ.out.1 HJ.out.2.1 HJ.out.2.2.1 HJ.out.2.2.2 rfl (by decide) _ _ _ rfl (HO.out.alloc _) ⟨Z.heap.size, 0, none⟩ 1 1 [.int .i64 (0), .bool (false), (.slice (some ⟨kg, 0, none⟩) kn kc), (.slice none 0 0), .slice none 0 0] rfl rfl (five_new _ _ _ _ _ _ _) (five_one rfl rfl rfl rfl rfl) (by unfold maxLen; omega) (by omega) (by have := HGN.out.1.size; rw [size_alloc]; omega) ?_)
          intro v4 w4 hown4 hgrow4 _
          have hwz : w.heap.size ≤ Z.heap.size := HGN.out.1.size
          have hA4 : Below Z.heap.size Z (Z.alloc (.cells #[.int .i64 (0), .bool (false), (.slice (some ⟨kg, 0, none⟩) kn kc), (.slice none 0 0), .slice none 0 0] 35)) := (Below.refl _ _).alloc (Nat.le_refl _) _
          have HBW := Lib.hid (below_grown ((Below.refl w.heap.size Z).alloc hwz (.cells #[.int .i64 (0), .bool (false), (.slice (some ⟨kg, 0, none⟩) kn kc), (.slice none 0 0), .slice none 0 0] 35)) HO.out (Nat.le_refl _) hwz hgrow4)
          have HKB : Hid (KB 35 Z w4) := (KB.of_below 35 hA4).trans (KB.grown (HO.out.alloc _) hgrow4)
          have HO4 := Lib.hid hown4
          clear hown4 hgrow4 hA4 z0 z1 z2 z3 z4
          go_wp2_with fail
          go_roundg (gk - 1)
          case measure => omega
          case rel =>
            have hel2 : (tell (ltO o) (verOf vs ⟨5, on, key, val, moves⟩) ⟨5, on, key, val, moves⟩) = ⟨0, false, (es.reverse).map (·.1), (es.reverse).map (·.2), []⟩ := by rw [HVO.out]; rfl
            have hnx : next (ltO o) vs ⟨5, on, key, val, moves⟩ = vs := rfl
            refine ⟨j + 1, vs, ts ++ [⟨0, false, (es.reverse).map (·.1), (es.reverse).map (·.2), []⟩], by omega, rfl, (HGN.out.2.1.kb HKB.out own35 (by decide) (by decide)).more, ?_, ?_, ?_, ?_, ?_, ?_⟩
            · refine told_snoc (r := ((.slice (some ⟨kg, 0, none⟩) kn kc), (.slice none 0 0), .slice none 0 0)) HQ.out.1 (by rw [← HNT.out]; exact HO4.out) (fun i t r ht hr => ?_) ?_
              · obtain ⟨k1, k2, k3⟩ := HQ.out.2 i t r ht hr
                exact ⟨k1.kb (by decide) HKB.out, k2.kb (by decide) HKB.out, k3.kb (by decide) HKB.out⟩
              · exact ⟨IV.kb (by decide) HKB.out HKN.out, IV.kb (by decide) HKB.out HLN.out, SV.kb (by decide) HKB.out (SV.nil _)⟩
            · rw [List.length_append, HTL.out]; rfl
            · rw [← hnx, next_len]; have := HVL.out; split <;> omega
            · rw [HTO.out, run_drop HS2.out, hel2, hnx, List.append_assoc]; rfl
            · have h := HRI2.out
              have h2 := next_len (ltO o) vs ⟨5, on, key, val, moves⟩
              rw [hnx] at h2
              rw [HN5.out] at h
              rw [h2]
              exact h
            · exact HGN.out.1.trans HBW.out
        · have z := HG3.out.c
          obtain ⟨z0, z1, z2, z3, z4⟩ := z
          have f2 := HG3.out.f 2
          have f3 := HG3.out.f 3
          go_upto_region 23 with (fail)
          have HG4 := Lib.hid (HG3.out.set 2 (.slice (some ⟨kg, 0, none⟩) kn kc) (y0 := .int .i64 0) (y1 := .bool false) (y2 := (.slice (some ⟨kg, 0, none⟩) kn kc)) (y3 := .slice none 0 0) (y4 := .slice none 0 0) rfl)
          have HGN := Lib.hid (HG4.out.set 3 (.slice (some ⟨lg, 0, none⟩) ln lc) (y0 := .int .i64 0) (y1 := .bool false) (y2 := (.slice (some ⟨kg, 0, none⟩) kn kc)) (y3 := (.slice (some ⟨lg, 0, none⟩) ln lc)) (y4 := .slice none 0 0) rfl)
          have HKN := Lib.hid ((HK.out.kb (by decide) (HG3.out.kb 2 (.slice (some ⟨kg, 0, none⟩) kn kc))).kb (by decide) (HG4.out.kb 3 (.slice (some ⟨lg, 0, none⟩) ln lc)))
          have HLN := Lib.hid ((HL.out.kb (by decide) (HG3.out.kb 2 (.slice (some ⟨kg, 0, none⟩) kn kc))).kb (by decide) (HG4.out.kb 3 (.slice (some ⟨lg, 0, none⟩) ln lc)))
          clear z0 z1 z2 z3 z4 f2 f3 HG3 HG4 HK HL
          generalize (w3.setCell ⟨b10, 2, none⟩ (.slice (some ⟨kg, 0, none⟩) kn kc)).setCell ⟨b10, 3, none⟩ (.slice (some ⟨lg, 0, none⟩) ln lc) = Z at HGN HKN HLN ⊢
          have z := HGN.out.c
          obtain ⟨z0, z1, z2, z3, z4⟩ := z
          obtain ⟨rs, q1, q2, q3⟩ := HGN.out.2.2.1
          obtain ⟨nt, hnt⟩ : ∃ nt, nt = ts.length := ⟨_, rfl⟩
          rw [← hnt] at q2
          have HNT := Lib.hid hnt
          have HO := Lib.hid q2
          have HQ := Lib.hid (And.intro q1 q3)
          have hnt2 : nt ≤ 800 := by have := HTL.out; omega
          clear q1 q2 q3 hnt
          go_wp2_with (at_builtin; refine wpList_append_own _ rfl (.tmp 95) (.tmp 97) 29 rfl w.heap.size 35 i35 (.agg #[.int .i64 0, .bool false, .slice none 0 0, .slice none 0 0, .slice none 0 0]) 5 88 Try.underlying29 HJ.out.1 HJ.out.2.1 HJ.out.2.2.1 HJ.out.2.2.2 rfl (by decide) _ _ _ rfl (HO.out.alloc _) ⟨Z.heap.size, 0, none⟩ 1 1 [.int .i64 (0), .bool (false), (.slice (some ⟨kg, 0, none⟩) kn kc), (.slice (some ⟨lg, 0, none⟩) ln lc), .slice none 0 0] rfl rfl (five_new _ _ _ _ _ _ _) (five_one rfl rfl rfl rfl rfl) (by unfold maxLen; omega) (by omega) (by have := HGN.out.1.size; rw [size_alloc]; omega) ?_)
          intro v4 w4 hown4 hgrow4 _
          have hwz : w.heap.size ≤ Z.heap.size := HGN.out.1.size
          have hA4 : Below Z.heap.size Z (Z.alloc (.cells #[.int .i64 (0), .bool (false), (.slice (some ⟨kg, 0, none⟩) kn kc), (.slice (some ⟨lg, 0, none⟩) ln lc), .slice none 0 0] 35)) := (Below.refl _ _).alloc (Nat.le_refl _) _
          have HBW := Lib.hid (below_grown ((Below.refl w.heap.size Z).alloc hwz (.cells #[.int .i64 (0), .bool (false), (.slice (some ⟨kg, 0, none⟩) kn kc), (.slice (some ⟨lg, 0, none⟩) ln lc), .slice none 0 0] 35)) HO.out (Nat.le_refl _) hwz hgrow4)
          have HKB : Hid (KB 35 Z w4) := (KB.of_below 35 hA4).trans (KB.grown (HO.out.alloc _) hgrow4)
          have HO4 := Lib.hid hown4
          clear hown4 hgrow4 hA4 z0 z1 z2 z3 z4
          go_wp2_with fail
          go_roundg (gk - 1)
          case measure => omega
          case rel =>
            have hel2 : (tell (ltO o) (verOf vs ⟨5, on, key, val, moves⟩) ⟨5, on, key, val, moves⟩) = ⟨0, false, (es.reverse).map (·.1), (es.reverse).map (·.2), []⟩ := by rw [HVO.out]; rfl
            have hnx : next (ltO o) vs ⟨5, on, key, val, moves⟩ = vs := rfl
            refine ⟨j + 1, vs, ts ++ [⟨0, false, (es.reverse).map (·.1), (es.reverse).map (·.2), []⟩], by omega, rfl, (HGN.out.2.1.kb HKB.out own35 (by decide) (by decide)).more, ?_, ?_, ?_, ?_, ?_, ?_⟩
            · refine told_snoc (r := ((.slice (some ⟨kg, 0, none⟩) kn kc), (.slice (some ⟨lg, 0, none⟩) ln lc), .slice none 0 0)) HQ.out.1 (by rw [← HNT.out]; exact HO4.out) (fun i t r ht hr => ?_) ?_
              · obtain ⟨k1, k2, k3⟩ := HQ.out.2 i t r ht hr
                exact ⟨k1.kb (by decide) HKB.out, k2.kb (by decide) HKB.out, k3.kb (by decide) HKB.out⟩
              · exact ⟨IV.kb (by decide) HKB.out HKN.out, IV.kb (by decide) HKB.out HLN.out, SV.kb (by decide) HKB.out (SV.nil _)⟩
            · rw [List.length_append, HTL.out]; rfl
            · rw [← hnx, next_len]; have := HVL.out; split <;> omega
            · rw [HTO.out, run_drop HS2.out, hel2, hnx, List.append_assoc]; rfl
            · have h := HRI2.out
              have h2 := next_len (ltO o) vs ⟨5, on, key, val, moves⟩
              rw [hnx] at h2
              rw [HN5.out] at h
              rw [h2]
              exact h
            · exact HGN.out.1.trans HBW.out
      · have hne : b8 ≠ b10 := by
          rintro rfl
          have h1 := HG.out.2.2.2.1
          rw [HG.out.2.2.2.2.1] at h1
          simp at h1
        have HNE := Lib.hid hne
        have HR0 : Hid (But (· = b10) Y Y.drew) := (But.refl _ _).drew
        clear hne
        go_upto_region 22 with (fail)
        refine region_segsR (fun W => But (· = b10) Y W) [([0, 2, 3], [1]), ([], [4]), ([5], [6])] (by kernel_rfl) (by intro dst v c a w h; cases dst <;> exact h) (by kernel_rfl) HR0.out ?_
        refine r_segs ?_
        simp only [opsOf, List.getElem?_toArray, List.getElem?_cons_succ, List.getElem?_cons_zero]
        repeat (refine r_read ?_ (by kernel_rfl) ?_ (fun K hK => ?_); rotate_left 1; (intro W hR; have y4 := cell_at (j := 4) (hR.at HG.out.2.2.2.1 HNE.out) rfl; clear hR; go_simp; try with_reducible rfl); go_simp; refine hK _ ?_; clear hK K)
        refine r_nil1 ?_
        refine r_op rfl (fun K hK => ?_)
        go_simp
        have hdr : Below Y.heap.size Y Y.drew := (Below.refl _ _).drew
        refine (iter_w (o := o) (k := j) (w := Y.drew) (by omega) (HMY.out.below hdr)).mono ?_
        rintro e w2 ⟨rfl, hb2, hst⟩
        have HB2 : Hid (Below Y.heap.size Y w2) := hdr.trans hb2
        obtain ⟨arrI, ddI, hitb⟩ := hst.itb
        have HIL := Lib.hid (lt_of_block hitb.1)
        have HST := Lib.hid hst
        clear hb2 hst hitb hdr
        refine hK _ _ (But.of_below HB2.out) ?_
        clear hK K
        refine r_segs ?_
        simp only [opsOf]
        refine r_nil1 ?_
        refine r_op rfl (fun K hK => ?_)
        go_simp
        have hmbl : mb < w2.heap.size := by
          obtain ⟨_, _, h, _⟩ := HMY.out
          exact Nat.lt_of_lt_of_le (lt_of_block h) HB2.out.size
        refine (walked_w o j Y.heap.size mb (by omega) es moves HM5.out hml (.slice ma moves.length mcap) Y w2 HMVY.out HB2.out (Nat.le_refl _) HIL.out hmbl (pos es 0) HST.out (HMY.out.below HB2.out)).mono ?_
        rintro e w3 ⟨sv, rfl, how, hb3⟩
        have HB3 : Hid (Below Y.heap.size Y w3) := But.below ((But.of_below HB2.out).trans hb3) (Nat.le_refl _) (fun k hk => by omega)
        have HSV := Lib.hid (SV.of_own (l := seens (ltO o) es (pos es 0) moves) (by rw [seens_len]) how)
        clear how hb3 hmbl HST HIL
        refine hK _ _ (But.of_below HB3.out) ?_
        clear hK K
        have HG3 := Lib.hid (HG.out.below HB3.out)
        clear HMY HMVY y0 y2 y3
        refine r_segs ?_
        simp only [opsOf, List.getElem?_toArray, List.getElem?_cons_succ, List.getElem?_cons_zero]
        repeat (refine r_read ?_ (by kernel_rfl) ?_ (fun K hK => ?_); rotate_left 1; (intro W hR; clear hR; go_simp; try with_reducible rfl); go_simp; refine hK _ ?_; clear hK K)
        refine r_nil1 ?_
        refine r_op rfl (fun K hK => ?_)
        rcases HSV.out.sl with rfl | ⟨kg, kn, kc, rfl⟩
        · have z := HG3.out.c
          obtain ⟨z0, z1, z2, z3, z4⟩ := z
          have f4 := HG3.out.f 4
          go_simp
          refine hK _ _ (((But.of_below HB3.out : But (· = b10) Y w3)).setCell (p := ⟨b10, 4, none⟩) (.inl rfl) _) ?_
          clear hK K
          refine r_end ?_
          have HGN := Lib.hid (HG3.out.set 4 (.slice none 0 0) (y0 := .int .i64 0) (y1 := .bool false) (y2 := .slice none 0 0) (y3 := .slice none 0 0) (y4 := (.slice none 0 0)) rfl)
          have HKN := Lib.hid (HSV.out.kb (by decide) (HG3.out.kb 4 (.slice none 0 0)))
          clear z0 z1 z2 z3 z4 f4 HG3 HSV HB3 HR0
          generalize w3.setCell ⟨b10, 4, none⟩ (.slice none 0 0) = Z at HGN HKN ⊢
          have z := HGN.out.c
          obtain ⟨z0, z1, z2, z3, z4⟩ := z
          obtain ⟨rs, q1, q2, q3⟩ := HGN.out.2.2.1
          obtain ⟨nt, hnt⟩ : ∃ nt, nt = ts.length := ⟨_, rfl⟩
          rw [← hnt] at q2
          have HNT := Lib.hid hnt
          have HO := Lib.hid q2
          have HQ := Lib.hid (And.intro q1 q3)
          have hnt2 : nt ≤ 800 := by have := HTL.out; omega
          clear q1 q2 q3 hnt
          go_wp2_with (at_builtin; refine wpList_append_own _ rfl (.tmp 95) (.tmp 97) 29 rfl w.heap.size 35 i35 (.agg #[.int .i64 0, .bool false, .slice none 0 0, .slice none 0 0, .slice none 0 0]) 5 88 Try.underlying29 HJ.out.1 HJ.out.2.1 HJ.out.2.2.1 HJ.out.2.2.2 rfl (by decide) _ _ _ rfl (HO.out.alloc _) ⟨Z.heap.size, 0, none⟩ 1 1 [.int .i64 (0), .bool (false), .slice none 0 0, .slice none 0 0, (.slice none 0 0)] rfl rfl (five_new _ _ _ _ _ _ _) (five_one rfl rfl rfl rfl rfl) (by unfold maxLen; omega) (by omega) (by have := HGN.out.1.size; rw [size_alloc]; omega) ?_)
          intro v4 w4 hown4 hgrow4 _
          have hwz : w.heap.size ≤ Z.heap.size := HGN.out.1.size
          have hA4 : Below Z.heap.size Z (Z.alloc (.cells #[.int .i64 (0), .bool (false), .slice none 0 0, .slice none 0 0, (.slice none 0 0)] 35)) := (Below.refl _ _).alloc (Nat.le_refl _) _
          have HBW := Lib.hid (below_grown ((Below.refl w.heap.size Z).alloc hwz (.cells #[.int .i64 (0), .bool (false), .slice none 0 0, .slice none 0 0, (.slice none 0 0)] 35)) HO.out (Nat.le_refl _) hwz hgrow4)
          have HKB : Hid (KB 35 Z w4) := (KB.of_below 35 hA4).trans (KB.grown (HO.out.alloc _) hgrow4)
          have HO4 := Lib.hid hown4
          clear hown4 hgrow4 hA4 z0 z1 z2 z3 z4
          go_wp2_with fail
          go_roundg (gk - 1)
          case measure => omega
          case rel =>
            have hel2 : (tell (ltO o) (verOf vs ⟨6, on, key, val, moves⟩) ⟨6, on, key, val, moves⟩) = ⟨0, false, [], [], seens (ltO o) es (pos es 0) moves⟩ := by rw [HVO.out]; rfl
            have hnx : next (ltO o) vs ⟨6, on, key, val, moves⟩ = vs := rfl
            refine ⟨j + 1, vs, ts ++ [⟨0, false, [], [], seens (ltO o) es (pos es 0) moves⟩], by omega, rfl, (HGN.out.2.1.kb HKB.out own35 (by decide) (by decide)).more, ?_, ?_, ?_, ?_, ?_, ?_⟩
            · refine told_snoc (r := (.slice none 0 0, .slice none 0 0, (.slice none 0 0))) HQ.out.1 (by rw [← HNT.out]; exact HO4.out) (fun i t r ht hr => ?_) ?_
              · obtain ⟨k1, k2, k3⟩ := HQ.out.2 i t r ht hr
                exact ⟨k1.kb (by decide) HKB.out, k2.kb (by decide) HKB.out, k3.kb (by decide) HKB.out⟩
              · exact ⟨IV.kb (by decide) HKB.out (IV.nil _), IV.kb (by decide) HKB.out (IV.nil _), SV.kb (by decide) HKB.out HKN.out⟩
            · rw [List.length_append, HTL.out]; rfl
            · rw [← hnx, next_len]; have := HVL.out; split <;> omega
            · rw [HTO.out, run_drop HS2.out, hel2, hnx, List.append_assoc]; rfl
            · have h := HRI2.out
              have h2 := next_len (ltO o) vs ⟨6, on, key, val, moves⟩
              rw [hnx] at h2
              rw [HN5.out] at h
              rw [h2]
              exact h
            · exact HGN.out.1.trans HBW.out
        · have z := HG3.out.c
          obtain ⟨z0, z1, z2, z3, z4⟩ := z
          have f4 := HG3.out.f 4
          go_simp
          refine hK _ _ (((But.of_below HB3.out : But (· = b10) Y w3)).setCell (p := ⟨b10, 4, none⟩) (.inl rfl) _) ?_
          clear hK K
          refine r_end ?_
          have HGN := Lib.hid (HG3.out.set 4 (.slice (some ⟨kg, 0, none⟩) kn kc) (y0 := .int .i64 0) (y1 := .bool false) (y2 := .slice none 0 0) (y3 := .slice none 0 0) (y4 := (.slice (some ⟨kg, 0, none⟩) kn kc)) rfl)
          have HKN := Lib.hid (HSV.out.kb (by decide) (HG3.out.kb 4 (.slice (some ⟨kg, 0, none⟩) kn kc)))
          clear z0 z1 z2 z3 z4 f4 HG3 HSV HB3 HR0
          generalize w3.setCell ⟨b10, 4, none⟩ (.slice (some ⟨kg, 0, none⟩) kn kc) = Z at HGN HKN ⊢
          have z := HGN.out.c
          obtain ⟨z0, z1, z2, z3, z4⟩ := z
          obtain ⟨rs, q1, q2, q3⟩ := HGN.out.2.2.1
          obtain ⟨nt, hnt⟩ : ∃ nt, nt = ts.length := ⟨_, rfl⟩
          rw [← hnt] at q2
          have HNT := Lib.hid hnt
          have HO := Lib.hid q2
          have HQ := Lib.hid (And.intro q1 q3)
          have hnt2 : nt ≤ 800 := by have := HTL.out; omega
          clear q1 q2 q3 hnt
          go_wp2_with (at_builtin; refine wpList_append_own _ rfl (.tmp 95) (.tmp 97) 29 rfl w.heap.size 35 i35 (.agg #[.int .i64 0, .bool false, .slice none 0 0, .slice none 0 0, .slice none 0 0]) 5 88 Try.underlying29 HJ.out.1 HJ.out.2.1 HJ.out.2.2.1 HJ.out.2.2.2 rfl (by decide) _ _ _ rfl (HO.out.alloc _) ⟨Z.heap.size, 0, none⟩ 1 1 [.int .i64 (0), .bool (false), .slice none 0 0, .slice none 0 0, (.slice (some ⟨kg, 0, none⟩) kn kc)] rfl rfl (five_new _ _ _ _ _ _ _) (five_one rfl rfl rfl rfl rfl) (by unfold maxLen; omega) (by omega) (by have := HGN.out.1.size; rw [size_alloc]; omega) ?_)
          intro v4 w4 hown4 hgrow4 _
          have hwz : w.heap.size ≤ Z.heap.size := HGN.out.1.size
          have hA4 : Below Z.heap.size Z (Z.alloc (.cells #[.int .i64 (0), .bool (false), .slice none 0 0, .slice none 0 0, (.slice (some ⟨kg, 0, none⟩) kn kc)] 35)) := (Below.refl _ _).alloc (Nat.le_refl _) _
          have HBW := Lib.hid (below_grown ((Below.refl w.heap.size Z).alloc hwz (.cells #[.int .i64 (0), .bool (false), .slice none 0 0, .slice none 0 0, (.slice (some ⟨kg, 0, none⟩) kn kc)] 35)) HO.out (Nat.le_refl _) hwz hgrow4)
          have HKB : Hid (KB 35 Z w4) := (KB.of_below 35 hA4).trans (KB.grown (HO.out.alloc _) hgrow4)
          have HO4 := Lib.hid hown4
          clear hown4 hgrow4 hA4 z0 z1 z2 z3 z4
          go_wp2_with fail
          go_roundg (gk - 1)
          case measure => omega
          case rel =>
            have hel2 : (tell (ltO o) (verOf vs ⟨6, on, key, val, moves⟩) ⟨6, on, key, val, moves⟩) = ⟨0, false, [], [], seens (ltO o) es (pos es 0) moves⟩ := by rw [HVO.out]; rfl
            have hnx : next (ltO o) vs ⟨6, on, key, val, moves⟩ = vs := rfl
            refine ⟨j + 1, vs, ts ++ [⟨0, false, [], [], seens (ltO o) es (pos es 0) moves⟩], by omega, rfl, (HGN.out.2.1.kb HKB.out own35 (by decide) (by decide)).more, ?_, ?_, ?_, ?_, ?_, ?_⟩
            · refine told_snoc (r := (.slice none 0 0, .slice none 0 0, (.slice (some ⟨kg, 0, none⟩) kn kc))) HQ.out.1 (by rw [← HNT.out]; exact HO4.out) (fun i t r ht hr => ?_) ?_
              · obtain ⟨k1, k2, k3⟩ := HQ.out.2 i t r ht hr
                exact ⟨k1.kb (by decide) HKB.out, k2.kb (by decide) HKB.out, k3.kb (by decide) HKB.out⟩
              · exact ⟨IV.kb (by decide) HKB.out (IV.nil _), IV.kb (by decide) HKB.out (IV.nil _), SV.kb (by decide) HKB.out HKN.out⟩
            · rw [List.length_append, HTL.out]; rfl
            · rw [← hnx, next_len]; have := HVL.out; split <;> omega
            · rw [HTO.out, run_drop HS2.out, hel2, hnx, List.append_assoc]; rfl
            · have h := HRI2.out
              have h2 := next_len (ltO o) vs ⟨6, on, key, val, moves⟩
              rw [hnx] at h2
              rw [HN5.out] at h
              rw [h2]
              exact h
            · exact HGN.out.1.trans HBW.out
    · have h1 : decide ((j : Int) < (n : Int)) = false := by simp; omega
      have hjn : j = n := by omega
      have HJN := Lib.hid hjn
      clear hjn
      go_wp2_with fail
      refine bodyPost_ret (results_tmp rfl _ _ _) rfl ?_
      refine ⟨_, rfl, ?_, HB.out⟩
      have ht := HTO.out
      rw [List.drop_of_length_le (by rw [HJN.out, HN.out]; exact Nat.le_refl _)] at ht
      rw [ht, show run (ltO o) vs [] = [] from rfl, List.append_nil]
      exact HTS.out
end Go.Proofs.Ytefigjdebakccaa
