/- Two tellings of the same versions are equal. -/
import Derived.Test.YtpkndcmgialgcaaMVsn
namespace Go.Proofs.Ytpkndcmgialgcaa
open Go.RowKit Go.Maps

set_option maxRecDepth 100000 in
set_option maxHeartbeats 1600000 in
theorem pairsEq_w (v1 v2 : Value) (es : List (Int × Int)) (w : World) (h1 : PairV w v1 es) (h2 : PairV w v2 es) (hl : es.length ≤ 100000000) :
    Calls Try.prog 31 #[v1, v2] w fun e w' => e = .returned (.bool true) ∧ Below w.heap.size w w' := by
  obtain ⟨a1, c1, rfl, k1⟩ := h1
  obtain ⟨a2, c2, rfl, k2⟩ := h2
  have K1 := Lib.hid k1
  have K2 := Lib.hid k2
  have HL := Lib.hid hl
  clear k1 k2 hl
  go_enter Try.func31, Try.ntmps31
  go_wp2_with fail
  go_loopg [13] es.length (fun k i wr => ∃ j : Nat, j + k = es.length ∧ i = .int .i64 (j : Int) ∧ Below w.heap.size w wr)
  case atStart => exact ⟨0, by omega, rfl, Below.refl _ _⟩
  case round =>
    obtain ⟨j, hjk, rfl, hb⟩ := hrel
    have HB := Lib.hid hb
    clear hb
    have hw1 : IntKind.i64.wrap ((j : Int) + 1) = (j : Int) + 1 := by have := HL.out; rw [IntKind.wrap_i64]; omega
    by_cases hlt : j < es.length
    · have h1 : decide ((j : Int) < (es.length : Int)) = true := by simp; omega
      have h3 : (j : Int) < (es.length : Int) := by omega
      obtain ⟨⟨y1, y2⟩, hy⟩ : ∃ e, es[j]? = some e := ⟨es[j], List.getElem?_eq_getElem hlt⟩
      obtain ⟨b1, o1, rfl, p1, p2⟩ := K1.out j _ hy
      obtain ⟨b2, o2, rfl, p3, p4⟩ := K2.out j _ hy
      have q1 := (HB.out.cell (World.block_lt_of_cell? w _ p1)).trans p1
      have q2 := (HB.out.cell (World.block_lt_of_cell? w _ p2)).trans p2
      have q3 := (HB.out.cell (World.block_lt_of_cell? w _ p3)).trans p3
      have q4 := (HB.out.cell (World.block_lt_of_cell? w _ p4)).trans p4
      simp only at q1 q2 q3 q4
      clear p1 p2 p3 p4 hy
      go_upto_region 6 with (fail)
      refine region_still (by kernel_rfl) (by kernel_rfl) (Veil.out ?_)
      repeat (refine v_step (fun K hK => ?_); go_simp; refine hK _ ?_; clear hK K)
      refine v_nil ⟨?_⟩
      go_wp2_with fail
      go_roundg (gk - 1)
      case measure => omega
      case rel => exact ⟨j + 1, by omega, rfl, HB.out.drew⟩
    · have h1 : decide ((j : Int) < (es.length : Int)) = false := by simp; omega
      obtain rfl : j = es.length := by omega
      go_wp2_with fail
      refine bodyPost_ret (results_tmp rfl _ _ _) rfl ?_
      exact ⟨rfl, HB.out⟩

set_option maxRecDepth 100000 in
set_option maxHeartbeats 1600000 in
theorem again1_w (n : Int) (v1 v2 : Value) (es : List (Int × Int)) (w : World) (h1 : PairV w v1 es) (h2 : PairV w v2 es) (hl : es.length ≤ 100000000) :
    Calls Try.prog 30 #[.agg #[.int .i64 n, v1], .agg #[.int .i64 n, v2]] w fun e w' => e = .returned (.bool true) ∧ Below w.heap.size w w' := by
  have H1 := Lib.hid h1
  have H2 := Lib.hid h2
  have HL := Lib.hid hl
  obtain ⟨a1, c1, rfl, -⟩ := h1
  obtain ⟨a2, c2, rfl, -⟩ := h2
  clear hl
  go_enter Try.func30, Try.ntmps30
  go_upto_region 1 with (fail)
  have hA0 : Below w.heap.size w (w.alloc (.cells #[.int .i64 n, .slice a1 es.length c1] 46)) := (Below.refl _ _).alloc (Nat.le_refl _) _
  have hA1 : Below (w.alloc (.cells #[.int .i64 n, .slice a1 es.length c1] 46)).heap.size (w.alloc (.cells #[.int .i64 n, .slice a1 es.length c1] 46)) ((w.alloc (.cells #[.int .i64 n, .slice a1 es.length c1] 46)).alloc (.cells #[.int .i64 n, .slice a2 es.length c2] 46)) := (Below.refl _ _).alloc (Nat.le_refl _) _
  have e0 : (w.alloc (.cells #[.int .i64 n, .slice a1 es.length c1] 46)).heap.size = w.heap.size + 1 := size_alloc _ _
  have HX := Lib.hid (below_at hA1 (heap_alloc_last w (.cells #[.int .i64 n, .slice a1 es.length c1] 46)))
  have hY := heap_alloc_last (w.alloc (.cells #[.int .i64 n, .slice a1 es.length c1] 46)) (.cells #[.int .i64 n, .slice a2 es.length c2] 46)
  rw [e0] at hY
  have HY := Lib.hid hY
  have HA := Lib.hid (hA0.trans (hA1.mono hA0.size))
  clear hA0 hA1 e0 hY
  generalize (w.alloc (.cells #[.int .i64 n, .slice a1 es.length c1] 46)).alloc (.cells #[.int .i64 n, .slice a2 es.length c2] 46) = X at HX HY HA ⊢
  obtain ⟨bx, hbx⟩ : ∃ bx, bx = w.heap.size := ⟨_, rfl⟩
  rw [← hbx] at HX HY ⊢
  clear hbx
  have s0 := cell_at (j := 0) HX.out rfl
  have s1 := cell_at (j := 1) HX.out rfl
  have s2 := cell_at (j := 0) HY.out rfl
  have s3 := cell_at (j := 1) HY.out rfl
  go_wp2_with fail
  refine (pairsEq_w _ _ es X (H1.out.below HA.out) (H2.out.below HA.out) HL.out).mono ?_
  rintro e w' ⟨rfl, hb⟩
  have HB := Lib.hid (HA.out.trans (hb.mono HA.out.size))
  clear hb
  go_wp2_with fail
  refine bodyPost_ret (results_tmp rfl _ _ _) rfl ?_
  exact ⟨rfl, HB.out⟩

theorem seens_at {w : World} {B j : Nat} {g c : Nat} {vs : List (MS Int Int)} {m : MS Int Int} (h : Seens w B (.slice (some ⟨g, 0, none⟩) vs.length c) vs) (hm : vs[j]? = some m) :
    ∃ pa pc, w.cell? ⟨g, j * 2, none⟩ = some (.int .i64 (m.es.length : Nat)) ∧ w.cell? ⟨g, j * 2 + 1, none⟩ = some (.slice pa m.es.length pc) ∧ PairV w (.slice pa m.es.length pc) m.es := by
  obtain ⟨sls, h1, h2, h3⟩ := h
  have hlt : j < sls.length := by rw [h1]; exact (List.getElem?_eq_some_iff.1 hm).1
  obtain ⟨sl, hsl⟩ : ∃ r, sls[j]? = some r := ⟨sls[j], List.getElem?_eq_getElem hlt⟩
  obtain ⟨m', hm', hs⟩ := h3 j sl hsl
  rw [hm] at hm'
  cases hm'
  obtain ⟨t1, t2⟩ := scells_at hm hsl
  have hp := PairV.of_seen hs
  obtain ⟨pa, pc, rfl, hp'⟩ := hp
  exact ⟨pa, pc, own_cells h2 t1, own_cells h2 t2, pa, pc, rfl, hp'⟩
theorem seens_shape {w : World} {B : Nat} {v : Value} {vs : List (MS Int Int)} (h : Seens w B v vs) (hn : vs.length ≠ 0) : ∃ g c, v = .slice (some ⟨g, 0, none⟩) vs.length c := by
  obtain ⟨sls, h1, h2, h3⟩ := h
  exact own_shape h2 hn

set_option maxRecDepth 100000 in
set_option maxHeartbeats 1600000 in
theorem seenEq_w (v1 v2 : Value) (vs : List (MS Int Int)) (B1 B2 : Nat) (w : World) (h1 : Seens w B1 v1 vs) (h2 : Seens w B2 v2 vs) (hn : vs.length ≠ 0) (hn2 : vs.length ≤ 100000) (hl : ∀ m ∈ vs, m.es.length ≤ 100000000) :
    Calls Try.prog 29 #[v1, v2, .func (.func 30) #[] #[]] w fun e w' => e = .returned (.bool true) ∧ Below w.heap.size w w' := by
  obtain ⟨g1, c1, rfl⟩ := seens_shape h1 hn
  obtain ⟨g2, c2, rfl⟩ := seens_shape h2 hn
  have H1 := Lib.hid h1
  have H2 := Lib.hid h2
  have HL := Lib.hid hl
  have HN := Lib.hid hn2
  clear h1 h2 hl hn hn2
  go_enter Try.func29, Try.ntmps29
  go_wp2_with fail
  go_loopg [17] vs.length (fun k i wr => ∃ j : Nat, j + k = vs.length ∧ i = .int .i64 (j : Int) ∧ Below w.heap.size w wr)
  case atStart => exact ⟨0, by omega, rfl, Below.refl _ _⟩
  case round =>
    obtain ⟨j, hjk, rfl, hb⟩ := hrel
    have HB := Lib.hid hb
    clear hb
    have hw1 : IntKind.i64.wrap ((j : Int) + 1) = (j : Int) + 1 := by have := HN.out; rw [IntKind.wrap_i64]; omega
    by_cases hlt : j < vs.length
    · have h1 : decide ((j : Int) < (vs.length : Int)) = true := by simp; omega
      have h3 : (j : Int) < (vs.length : Int) := by omega
      obtain ⟨m, hm⟩ : ∃ e, vs[j]? = some e := ⟨vs[j], List.getElem?_eq_getElem hlt⟩
      obtain ⟨a1, d1, p1, p2, p3⟩ := seens_at (H1.out.below HB.out) hm
      obtain ⟨a2, d2, p4, p5, p6⟩ := seens_at (H2.out.below HB.out) hm
      have P3 := Lib.hid p3
      have P6 := Lib.hid p6
      have P4 := Lib.hid p4
      have P5 := Lib.hid p5
      have HML := Lib.hid (HL.out m (List.mem_of_getElem? hm))
      clear hm p3 p6 p4 p5
      go_upto_region 6 with (fail)
      have hA : Below wr.heap.size wr (wr.alloc (.cells #[.int .i64 (m.es.length : Nat), .slice a1 m.es.length d1] 46)) := (Below.refl _ wr).alloc (Nat.le_refl _) _
      have HX := Lib.hid (heap_alloc_last wr (.cells #[.int .i64 (m.es.length : Nat), .slice a1 m.es.length d1] 46))
      have HBX := Lib.hid (HB.out.trans (hA.mono HB.out.size))
      have q4 := (hA.cell (World.block_lt_of_cell? _ _ P4.out)).trans P4.out
      have q5 := (hA.cell (World.block_lt_of_cell? _ _ P5.out)).trans P5.out
      have P3X := Lib.hid (P3.out.below hA)
      have P6X := Lib.hid (P6.out.below hA)
      clear p1 p2 P3 P4 P5 P6 hA HB
      generalize wr.alloc (.cells #[.int .i64 (m.es.length : Nat), .slice a1 m.es.length d1] 46) = X at HX HBX q4 q5 P3X P6X ⊢
      generalize wr.heap.size = bx at HX ⊢
      clear wr
      go_upto_region 7 with (fail)
      have hA : Below X.heap.size X (X.alloc (.cells #[.int .i64 (m.es.length : Nat), .slice a2 m.es.length d2] 46)) := (Below.refl _ X).alloc (Nat.le_refl _) _
      have HY := Lib.hid (heap_alloc_last X (.cells #[.int .i64 (m.es.length : Nat), .slice a2 m.es.length d2] 46))
      have HBY := Lib.hid (HBX.out.trans (hA.mono HBX.out.size))
      have HX2 := Lib.hid (below_at hA HX.out)
      have P3Y := Lib.hid (P3X.out.below hA)
      have P6Y := Lib.hid (P6X.out.below hA)
      clear q4 q5 P3X P6X hA HBX HX
      generalize X.alloc (.cells #[.int .i64 (m.es.length : Nat), .slice a2 m.es.length d2] 46) = Y at HY HBY HX2 P3Y P6Y ⊢
      generalize X.heap.size = bY at HY ⊢
      clear X
      have s0 := cell_at (j := 0) HX2.out rfl
      have s1 := cell_at (j := 1) HX2.out rfl
      have s2 := cell_at (j := 0) HY.out rfl
      have s3 := cell_at (j := 1) HY.out rfl
      go_wp2_with fail
      refine (again1_w _ _ _ m.es Y P3Y.out P6Y.out HML.out).mono ?_
      rintro e w' ⟨rfl, hb⟩
      have HB2 := Lib.hid (HBY.out.trans (hb.mono HBY.out.size))
      clear hb s0 s1 s2 s3
      go_wp2_with fail
      go_roundg (gk - 1)
      case measure => omega
      case rel => exact ⟨j + 1, by omega, rfl, HB2.out⟩
    · have h1 : decide ((j : Int) < (vs.length : Int)) = false := by simp; omega
      obtain rfl : j = vs.length := by omega
      go_wp2_with fail
      refine bodyPost_ret (results_tmp rfl _ _ _) rfl ?_
      exact ⟨rfl, HB.out⟩
end Go.Proofs.Ytpkndcmgialgcaa
