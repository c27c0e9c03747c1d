/- What a view of versions tells is what the reference has. -/
import Derived.Test.YtpkndcmgialgcaaMOrd
namespace Go.Proofs.Ytpkndcmgialgcaa
open Go.RowKit Go.Maps

set_option maxRecDepth 100000 in
set_option maxHeartbeats 1600000 in
theorem mapSame_l (vs : List (MS Int Int)) (v l : Value) (w : World) (hv : SeenL w v vs) (hg : GVersL w l vs) (hn2 : vs.length ≤ 100000)
    (ho : ∀ m ∈ vs, Once m.es ∧ WfAll m.es ∧ m.es.length ≤ 100000000) :
    Calls Try.prog 22 #[v, l] w fun e w' => e = .returned (.bool true) ∧ Below w.heap.size w w' := by
  obtain ⟨a1, c1, rfl, k1⟩ := hv
  obtain ⟨a2, c2, rfl, k2⟩ := hg
  have K1 := Lib.hid k1
  have K2 := Lib.hid k2
  clear k1 k2
  have HO := Lib.hid ho
  have HN2 := Lib.hid hn2
  clear ho hn2
  go_enter Try.func22, Try.ntmps22
  go_wp2_with fail
  go_loopg [14] vs.length (fun k i wr => ∃ j : Nat, j + k = vs.length ∧ i = .int .i64 (j : Int) ∧ Below w.heap.size w wr)
  case atStart => exact ⟨0, by omega, rfl, Below.refl _ _⟩
  case round =>
    obtain ⟨j, hjk, rfl, hb⟩ := hrel
    have HB := Lib.hid hb
    clear hb
    have hw1 : IntKind.i64.wrap ((j : Int) + 1) = (j : Int) + 1 := by have := HN2.out; rw [IntKind.wrap_i64]; omega
    by_cases hlt : j < vs.length
    · have h1 : decide ((j : Int) < (vs.length : Int)) = true := by simp; omega
      have h2 : (j : Int) < (vs.length : Int) := by omega
      obtain ⟨m, hm⟩ : ∃ m, vs[j]? = some m := ⟨vs[j], List.getElem?_eq_getElem hlt⟩
      obtain ⟨g1, o1', pa, pc, rfl, e0, e1, hp0⟩ := K1.out j m hm
      obtain ⟨g2, o2', mb, rfl, hcm0, hgm⟩ := K2.out j m hm
      obtain ⟨o1, o2, o3⟩ := HO.out m (List.mem_of_getElem? hm)
      have e0 := (HB.out.cell (World.block_lt_of_cell? _ _ e0)).trans e0
      have e1 := (HB.out.cell (World.block_lt_of_cell? _ _ e1)).trans e1
      have HPAIR := Lib.hid (hp0.below HB.out)
      have HGM := Lib.hid (hgm.below HB.out)
      have HCM := Lib.hid ((HB.out.cell (World.block_lt_of_cell? _ _ hcm0)).trans hcm0)
      clear hp0 hgm hcm0 hm
      have O1 := Lib.hid o1
      have O2 := Lib.hid o2
      have O3 := Lib.hid o3
      clear o1 o2 o3
      go_upto_region 6 with (fail)
      have hA : Below wr.heap.size wr (wr.alloc (.cells #[.int .i64 (m.es.length : Nat), .slice pa m.es.length pc] 46)) := (Below.refl _ wr).alloc (Nat.le_refl _) _
      have HX := Lib.hid (heap_alloc_last wr (.cells #[.int .i64 (m.es.length : Nat), .slice pa m.es.length pc] 46))
      have HBX := Lib.hid (HB.out.trans (hA.mono HB.out.size))
      have HP2 := Lib.hid (HPAIR.out.below hA)
      have HG2 := Lib.hid (HGM.out.below hA)
      have HC2 : Hid ((wr.alloc (.cells #[.int .i64 (m.es.length : Nat), .slice pa m.es.length pc] 46)).cell? ⟨g2, o2' + j, none⟩ = some (.map (some mb))) := (hA.cell (World.block_lt_of_cell? _ _ HCM.out)).trans HCM.out
      have HE0 := Lib.hid ((hA.cell (World.block_lt_of_cell? _ _ e0)).trans e0)
      clear HB HPAIR HGM HCM e0 e1 HE0
      generalize wr.alloc (.cells #[.int .i64 (m.es.length : Nat), .slice pa m.es.length pc] 46) = X at HX HBX HP2 HG2 HC2 ⊢
      generalize wr.heap.size = bx at HX ⊢
      clear hA wr
      have HR0 : Hid (Below X.heap.size X X.drew) := (Below.refl _ X).drew
      have HF : ∀ W, Below X.heap.size X W → ∀ ty, (Builtin.len_ #[39] ty #[.map (some mb)]).run Try.prog W = .ok (.int .i64 (m.es.length : Nat)) W := fun W hR ty => by
        obtain ⟨D, g1, g2⟩ := HG2.out.below hR
        rw [g1.len Try.underlying39 ty, g2.size]
      have HFF := Lib.hid HF
      clear HF
      have HX0 : Hid (∀ W, Below X.heap.size X W → W.cell? ⟨bx, 0, none⟩ = some (.int .i64 (m.es.length : Nat))) := fun W hR => cell_at (j := 0) (below_at hR HX.out) rfl
      have HX1 : Hid (∀ W, Below X.heap.size X W → W.cell? ⟨bx, 1, none⟩ = some (.slice pa m.es.length pc)) := fun W hR => cell_at (j := 1) (below_at hR HX.out) rfl
      have HX2 : Hid (∀ W, Below X.heap.size X W → W.cell? ⟨g2, o2' + j, none⟩ = some (.map (some mb))) := fun W hR => (hR.cell (World.block_lt_of_cell? _ _ HC2.out)).trans HC2.out
      refine region_segsR (fun W => Below X.heap.size X W) [([0, 1, 2, 3, 4, 5, 6, 7, 8, 9, 10, 12, 13, 14, 15], [11]), ([], [16]), ([17], [18])] (by kernel_rfl) (by intro dst v c a w h; cases dst <;> exact h) (by kernel_rfl) HR0.out ?_
      refine r_segs ?_
      simp only [opsOf, List.getElem?_toArray, List.getElem?_cons_succ, List.getElem?_cons_zero]
      repeat (refine r_read ?_ (by kernel_rfl) ?_ (fun K hK => ?_); rotate_left 1; (intro W hR; have x0 := HX0.out W hR; have x1 := HX1.out W hR; have x2 := HX2.out W hR; have x3 := HFF.out W hR; clear hR; go_simp; try with_reducible rfl); go_simp; refine hK _ ?_; clear hK K)
      refine r_nil1 ?_
      refine r_op rfl (fun K hK => ?_)
      go_simp
      refine (pairsOf_w _ m.es _ (HP2.out.below HR0.out) O3.out).mono ?_
      rintro e w2 ⟨pv, rfl, hpv, hb2⟩
      have HPV := Lib.hid hpv
      have HB2 : Hid (Below X.heap.size X w2) := HR0.out.trans (hb2.mono HR0.out.size)
      obtain ⟨pa2, pc2, rfl, _⟩ := hpv
      clear hb2
      refine hK _ _ HB2.out ?_
      clear hK K
      refine r_segs ?_
      simp only [opsOf]
      refine r_nil1 ?_
      refine r_op rfl (fun K hK => ?_)
      go_simp
      refine (samePairs_w _ m.es mb _ HPV.out (HG2.out.below HB2.out) O1.out O2.out O3.out).mono ?_
      rintro e w3 ⟨rfl, hb3⟩
      have HB3 : Hid (Below X.heap.size X w3) := HB2.out.trans (hb3.mono HB2.out.size)
      clear hb3
      refine hK _ _ HB3.out ?_
      clear hK K
      refine r_segs ?_
      simp only [opsOf, List.getElem?_toArray, List.getElem?_cons_succ, List.getElem?_cons_zero]
      repeat (refine r_read ?_ (by kernel_rfl) ?_ (fun K hK => ?_); rotate_left 1; (intro W hR; clear hR; go_simp; try with_reducible rfl); go_simp; refine hK _ ?_; clear hK K)
      refine r_nil1 ?_
      refine r_op rfl (fun K hK => ?_)
      go_simp
      refine hK _ _ HB3.out ?_
      clear hK K
      refine r_end ?_
      go_wp2_with fail
      go_roundg (gk - 1)
      case measure => omega
      case rel => exact ⟨j + 1, by omega, rfl, HBX.out.trans (HB3.out.mono HBX.out.size)⟩
    · have h1 : decide ((j : Int) < (vs.length : Int)) = false := by simp; omega
      obtain rfl : j = vs.length := by omega
      go_wp2_with fail
      refine bodyPost_ret (results_tmp rfl _ _ _) rfl ?_
      exact ⟨rfl, HB.out⟩
end Go.Proofs.Ytpkndcmgialgcaa
