/- The reference: the pairs with one more, or another value.

The reference: the pairs without a key. -/
import Derived.Test.YtefigjdebakccaaWth
namespace Go.Proofs.Ytefigjdebakccaa
open Go.RowKit

theorem one_read {w : World} {nb : Nat} {x : Int} (h : w.cell? ⟨nb, 0, none⟩ = some (.int .i64 x)) {i : Nat} {y : Int} (hy : [x][i]? = some y) : w.cell? ⟨nb, 0 + i, none⟩ = some (.int .i64 y) := by
  have hi : i = 0 := by
    have := (List.getElem?_eq_some_iff.1 hy).1
    simp at this
    exact this
  subst hi
  simp at hy
  subst hy
  exact h

set_option maxRecDepth 100000 in
set_option maxHeartbeats 3200000 in
theorem with_w (o : Nat) (key val : Int) (es : List (Int × Int)) (hs : Srt (ltO o) es) (hl : es.length < 100000) (pv : Value) (w : World) (hp : PVc w pv o es) :
    Calls Try.prog 41 #[pv, .int .i64 key, .int .i64 val] w fun e w' => ∃ v, e = .returned v ∧ PT w' v o (ins (ltO o) es key val) ∧ Below w.heap.size w w' := by
  obtain ⟨ka, kc, va, vc, rfl, hr, hk, hv⟩ := hp
  obtain ⟨n, hn⟩ : ∃ n, n = es.length := ⟨_, rfl⟩
  have hbx : Below w.heap.size w ((w.alloc (.cells #[.int .u8 (o : Int), .slice ka es.length kc, .slice va es.length vc] 46)).alloc (.cells #[.int .u8 0, .slice none 0 0, .slice none 0 0] 46)) := ((Below.refl _ _).alloc (Nat.le_refl _) _).alloc (by rw [size_alloc]; omega) _
  have HPL := Lib.hid (place_w o key es hs (by omega) ka va kc es.length vc _ fun i e he => (hr.below hbx i e he).1)
  have hle := at_le (lt := ltO o) es key
  have HS := Lib.hid hs
  have HR := Lib.hid hr
  obtain ⟨p, hpp⟩ : ∃ p, p = at_ (ltO o) es key := ⟨_, rfl⟩
  obtain ⟨fd, hfd⟩ : ∃ fd, fd = (look (ltO o) es key).isSome := ⟨_, rfl⟩
  rw [← hpp, ← hfd] at HPL
  rw [← hn, ← hpp] at hle
  rw [← hn] at HPL hbx hk hv ⊢
  have HN := Lib.hid hn
  have HPP := Lib.hid hpp
  have HFD := Lib.hid hfd
  have HK := Lib.hid hk
  have HV := Lib.hid hv
  have hl2 : n < 100000 := by omega
  have HX3 : Hid (((w.alloc (.cells #[.int .u8 (o : Int), .slice ka n kc, .slice va n vc] 46)).alloc (.cells #[.int .u8 0, .slice none 0 0, .slice none 0 0] 46)).heap[w.heap.size]? = some (.cells #[.int .u8 (o : Int), .slice ka n kc, .slice va n vc] 46 (0, 0))) := at_alloc (heap_alloc_last w _)
  have HX6 : Hid (((w.alloc (.cells #[.int .u8 (o : Int), .slice ka n kc, .slice va n vc] 46)).alloc (.cells #[.int .u8 0, .slice none 0 0, .slice none 0 0] 46)).heap[w.heap.size + 1]? = some (.cells #[.int .u8 0, .slice none 0 0, .slice none 0 0] 46 (0, 0))) := by
    have h := heap_alloc_last (w.alloc (.cells #[.int .u8 (o : Int), .slice ka n kc, .slice va n vc] 46)) (.cells #[.int .u8 0, .slice none 0 0, .slice none 0 0] 46)
    rw [size_alloc] at h
    exact h
  have HBX := Lib.hid hbx
  clear hs hr hn hpp hfd hk hv hbx hl
  go_enter Try.func41, Try.ntmps41
  go_upto_region 1 with (fail)
  generalize (w.alloc (.cells #[.int .u8 (o : Int), .slice ka n kc, .slice va n vc] 46)).alloc (.cells #[.int .u8 0, .slice none 0 0, .slice none 0 0] 46) = X at HPL HX3 HX6 HBX ⊢
  obtain ⟨b3, hb3⟩ : ∃ b, b = w.heap.size := ⟨_, rfl⟩
  obtain ⟨b6, hb6⟩ : ∃ b, b = b3 + 1 := ⟨_, rfl⟩
  rw [← hb3] at HX3 HX6 ⊢
  rw [← hb6] at HX6 ⊢
  have HB3 := Lib.hid hb3
  have HB6 := Lib.hid hb6
  clear hb3 hb6
  have y0 := cell_at (j := 0) HX3.out rfl
  have y1 := cell_at (j := 1) HX3.out rfl
  have y2 := cell_at (j := 2) HX3.out rfl
  go_wp2_with fail
  refine HPL.out.mono ?_
  rintro e w2 ⟨rfl, hb2⟩
  have HX32 := Lib.hid (below_at hb2 HX3.out)
  have HX62 := Lib.hid (below_at hb2 HX6.out)
  have HB2 := Lib.hid (HBX.out.trans (hb2.mono HBX.out.size))
  clear y0 y1 y2 hb2 HX3 HX6 HPL HBX
  have y0 := cell_at (j := 0) HX32.out rfl
  go_upto_region 3 with (fail)
  have hbx : Below w2.heap.size w2 (w2.alloc (.cells #[.int .u8 (o : Int), .slice none 0 0, .slice none 0 0] 46)) := (Below.refl _ _).alloc (Nat.le_refl _) _
  have HX33 := Lib.hid (below_at hbx HX32.out)
  have HX63 := Lib.hid (below_at hbx HX62.out)
  have HX9 : Hid ((w2.alloc (.cells #[.int .u8 (o : Int), .slice none 0 0, .slice none 0 0] 46)).heap[w2.heap.size]? = some (.cells #[.int .u8 (o : Int), .slice none 0 0, .slice none 0 0] 46 (0, 0))) := heap_alloc_last w2 _
  have HB := Lib.hid (HB2.out.trans (hbx.mono HB2.out.size))
  have HNE : Hid (¬ b3 = w2.heap.size) := by
    show ¬ b3 = w2.heap.size
    have := lt_of_block HX32.out
    omega
  have HW9 : Hid (w.heap.size ≤ w2.heap.size) := HB2.out.size
  have HN6 : Hid (b6 ≠ w2.heap.size) := by
    show b6 ≠ w2.heap.size
    have := lt_of_block HX62.out
    omega
  clear hbx HX32 HX62 HB2 y0
  generalize w2.alloc (.cells #[.int .u8 (o : Int), .slice none 0 0, .slice none 0 0] 46) = X at HX33 HX63 HX9 HB ⊢
  generalize w2.heap.size = b9 at HX9 HNE HW9 HN6 ⊢
  clear w2
  have HN' : Hid (w.heap.size ≤ b9 ∧ b3 ≠ b9 ∧ b6 ≠ b9) := ⟨HW9.out, HNE.out, HN6.out⟩
  have HOUT : Hid (Out w b3 b6 b9 #[.int .u8 (o : Int), .slice ka n kc, .slice va n vc] #[.int .u8 0, .slice none 0 0, .slice none 0 0] o (.slice none 0 0) [] (.slice none 0 0) [] X) := ⟨HB.out, HX33.out, HX63.out, HX9.out, World.ownsRow_nil _ _ _ _, World.ownsRow_nil _ _ _ _, .inl rfl, HN'.out⟩
  clear HNE HW9 HN6 HX33 HX63 HX9 HB
  obtain ⟨ys, hys⟩ : ∃ ys, ys = (es.map (·.1)).take p := ⟨_, rfl⟩
  obtain ⟨zs, hzs⟩ : ∃ zs, zs = (es.map (·.2)).take p := ⟨_, rfl⟩
  have HYL : Hid (ys.length = p ∧ p ≤ 100000) := by
    refine ⟨?_, by omega⟩
    rw [hys, List.length_take, List.length_map, ← HN.out]; omega
  have HZL : Hid (zs.length = p) := by
    show zs.length = p
    rw [hzs, List.length_take, List.length_map, ← HN.out]; omega
  have hrk : ∀ W, Below w.heap.size w W → ∀ (i : Nat) (y : Int), ys[i]? = some y → ∃ g q, ka = some ⟨g, q, none⟩ ∧ W.cell? ⟨g, q + i, none⟩ = some (.int .i64 y) := fun W hW => by
    rw [hys]
    exact reads_take ((HR.out.below hW).keys)
  have hrv : ∀ W, Below w.heap.size w W → ∀ (i : Nat) (y : Int), zs[i]? = some y → ∃ g q, va = some ⟨g, q, none⟩ ∧ W.cell? ⟨g, q + i, none⟩ = some (.int .i64 y) := fun W hW => by
    rw [hzs]
    exact reads_take ((HR.out.below hW).vals)
  have hslk := slice22_h ka n kc p HK.out hle
  have hslv := slice22_h va n vc p HV.out hle
  have HRK := Lib.hid hrk
  have HRV := Lib.hid hrv
  have HSK := Lib.hid hslk
  have HSV := Lib.hid hslv
  have HYS := Lib.hid hys
  have HZS := Lib.hid hzs
  clear hys hzs hrk hrv hslk hslv
  have HR0 := Lib.hid HOUT.out.rwK.drew
  obtain ⟨B, hB⟩ : ∃ B, B = X.heap.size := ⟨_, rfl⟩
  rw [← hB] at HR0
  have HBX := Lib.hid hB
  clear hB
  go_cut [] from 19 to 29 (fun wc => ∃ v, Out w b3 b6 b9 #[.int .u8 (o : Int), .slice ka n kc, .slice va n vc] #[.int .u8 0, .slice none 0 0, .slice none 0 0] o v (ys.map (Value.int .i64) ++ [.int .i64 key]) (.slice none 0 0) [] wc)
  case first =>
    refine region_treeL 11 (fun W => Rw w B b3 b6 b9 #[.int .u8 (o : Int), .slice ka n kc, .slice va n vc] #[.int .u8 0, .slice none 0 0, .slice none 0 0] #[.int .u8 (o : Int), .slice none 0 0, .slice none 0 0] (.slice none 0 0) [] W) (.two [0, 1, 2, 3, 4, 5, 7] 6 (.one [] 8 (.one [] 9 (.one [10] 11 .stop))) 8 (.one [] 6 (.one [] 9 (.one [10] 11 .stop)))) (by kernel_rfl) (by intro dst v c a w h; cases dst <;> exact h) (by kernel_rfl) HR0.out ?_
    refine l_two ?_
    simp only [opsOf, List.getElem?_toArray, List.getElem?_cons_succ, List.getElem?_cons_zero]
    repeat (refine r_read ?_ (by kernel_rfl) ?_ (fun K hK => ?_); rotate_left 1; (intro W hR; have q9 := cell_at (j := 1) hR.k9 rfl; have q3 := cell_at (j := 1) hR.k3 rfl; have z2 := HSK.out W; clear hR; go_simp; try with_reducible rfl); go_simp; refine hK _ ?_; clear hK K)
    refine l_nil2 ?_ ?_
    · refine r_op rfl (fun K hK => ?_)
      refine ite_yes (by kernel_rfl) ?_
      refine app_any (.tmp 20) (.tmp 24) rfl B (0) (.slice none 0 0) ([]) rfl (World.ownsRow_nil _ _ _ _) (by omega) ys (by have := HYL.out; have := HZL.out; omega) ka kc (by rw [HYL.out.1]; rfl) HK.out.2.1 (fun i y hy => HRK.out _ HR0.out.bel i y hy) HR0.out.BW ?_
      intro v1 w1 ho1 hg1 hat1
      have HR1 := Lib.hid (HR0.out.grow (World.ownsRow_nil _ _ _ _) hg1)
      have HO1 := Lib.hid ho1
      clear ho1 hg1 hat1
      refine hK _ _ HR1.out ?_
      clear hK K
      refine l_one0 (by nofun) ?_
      refine r_op rfl (fun K hK => ?_)
      go_simp
      have hk2 : (w1.alloc (.cells #[.int .i64 key] 3)).heap[w1.heap.size]? = some (.cells #[.int .i64 key] 3 (0, 0)) := heap_alloc_last _ _
      have HR2 : Hid (Rw w B b3 b6 b9 #[.int .u8 (o : Int), .slice ka n kc, .slice va n vc] #[.int .u8 0, .slice none 0 0, .slice none 0 0] #[.int .u8 (o : Int), .slice none 0 0, .slice none 0 0] (.slice none 0 0) [] (w1.alloc (.cells #[.int .i64 key] 3))) := HR1.out.alloc (.cells #[.int .i64 key] 3)
      have HP2 := Lib.hid (HO1.out.alloc (.cells #[.int .i64 key] 3))
      refine hK _ _ HR2.out ?_
      clear hK K
      generalize (w1.alloc (.cells #[.int .i64 key] 3)) = w2 at HR2 hk2 HP2 ⊢
      obtain ⟨nb2, hnb2⟩ : ∃ b, b = w1.heap.size := ⟨_, rfl⟩
      have hkk2 : w2.heap[nb2]? = some (.cells #[.int .i64 key] 3 (0, 0)) := by rw [hnb2]; exact hk2
      rw [← hnb2]
      clear hk2 hnb2
      have hn2 : w2.cell? ⟨nb2, 0, none⟩ = some (.int .i64 key) := cell_at (j := 0) hkk2 rfl
      refine l_one0 (by nofun) ?_
      refine r_op rfl (fun K hK => ?_)
      refine ite_yes (by kernel_rfl) ?_
      refine app_any (.tmp 25) (.tmp 27) rfl B (0 + ys.length) v1 ([] ++ ys.map (Value.int .i64)) rfl HP2.out (by have := HYL.out; have := HZL.out; omega) [key] (by simp) (some ⟨nb2, 0, none⟩) 1 rfl (by intro h; cases h) (fun i y hy => ⟨nb2, 0, rfl, one_read hn2 hy⟩) HR2.out.BW ?_
      intro v3 w3 ho3 hg3 hat3
      have HR3 := Lib.hid (HR2.out.grow HP2.out hg3)
      obtain ⟨g3, c3, rfl⟩ := own_shape ho3 (by simp)
      have HO3 := Lib.hid ho3
      clear ho3 hg3 hat3
      refine hK _ _ HR3.out ?_
      clear hK K
      refine l_end ?_
      simp only [opsOf, List.getElem?_toArray, List.getElem?_cons_succ, List.getElem?_cons_zero]
      repeat (refine r_read ?_ (by kernel_rfl) ?_ (fun K hK => ?_); rotate_left 1; (intro W hR; have q9 := cell_at (j := 1) hR.k9 rfl; have q3 := cell_at (j := 1) hR.k3 rfl; have z2 := HSK.out W; clear hR; go_simp; try with_reducible rfl); go_simp; refine hK _ ?_; clear hK K)
      refine l_nile ?_
      refine l_op rfl (fun K hK => ?_)
      have e1 := cell_at (j := 1) HR3.out.k9 rfl
      have f1 : w3.frozen? ⟨b9, 1, none⟩ = false := frozen_of_row _ _ _ _ _ HR3.out.k9
      go_simp
      refine hK _ _ ⟨?_⟩
      clear hK K e1 f1
      go_wp2_with fail
      go_meet
      case rel => exact ⟨_, Out.ofK (o := o) HR3.out rfl (by have h := HO3.out; simp only [List.length_append, List.length_map, List.length_singleton, List.nil_append, Nat.zero_add, List.map_cons, List.map_nil] at h ⊢; exact h) HN'.out.1 HN'.out.2.1 HN'.out.2.2⟩
    · refine r_op rfl (fun K hK => ?_)
      go_simp
      have hk1 : (X.alloc (.cells #[.int .i64 key] 3)).drew.heap[X.heap.size]? = some (.cells #[.int .i64 key] 3 (0, 0)) := heap_alloc_last _ _
      have HR1 : Hid (Rw w B b3 b6 b9 #[.int .u8 (o : Int), .slice ka n kc, .slice va n vc] #[.int .u8 0, .slice none 0 0, .slice none 0 0] #[.int .u8 (o : Int), .slice none 0 0, .slice none 0 0] (.slice none 0 0) [] (X.alloc (.cells #[.int .i64 key] 3)).drew) := HR0.out.alloc (.cells #[.int .i64 key] 3)
      refine hK _ _ HR1.out ?_
      clear hK K
      generalize (X.alloc (.cells #[.int .i64 key] 3)).drew = w1 at HR1 hk1  ⊢
      obtain ⟨nb1, hnb1⟩ : ∃ b, b = X.heap.size := ⟨_, rfl⟩
      have hkk1 : w1.heap[nb1]? = some (.cells #[.int .i64 key] 3 (0, 0)) := by rw [hnb1]; exact hk1
      rw [← hnb1]
      clear hk1 hnb1
      have hn1 : w1.cell? ⟨nb1, 0, none⟩ = some (.int .i64 key) := cell_at (j := 0) hkk1 rfl
      refine l_one0 (by nofun) ?_
      refine r_op rfl (fun K hK => ?_)
      refine ite_yes (by kernel_rfl) ?_
      refine app_any (.tmp 20) (.tmp 24) rfl B (0) (.slice none 0 0) ([]) rfl (World.ownsRow_nil _ _ _ _) (by omega) ys (by have := HYL.out; have := HZL.out; omega) ka kc (by rw [HYL.out.1]; rfl) HK.out.2.1 (fun i y hy => HRK.out _ HR1.out.bel i y hy) HR1.out.BW ?_
      intro v2 w2 ho2 hg2 hat2
      have HR2 := Lib.hid (HR1.out.grow (World.ownsRow_nil _ _ _ _) hg2)
      have hn2 : w2.cell? ⟨nb1, 0, none⟩ = some (.int .i64 key) := by
        refine cell_at (j := 0) ((hg2.block _ (lt_of_block hkk1) (by intro h; cases h)).trans hkk1) rfl
      have HO2 := Lib.hid ho2
      clear ho2 hg2 hat2
      refine hK _ _ HR2.out ?_
      clear hK K
      refine l_one0 (by nofun) ?_
      refine r_op rfl (fun K hK => ?_)
      refine ite_yes (by kernel_rfl) ?_
      refine app_any (.tmp 25) (.tmp 27) rfl B (0 + ys.length) v2 ([] ++ ys.map (Value.int .i64)) rfl HO2.out (by have := HYL.out; have := HZL.out; omega) [key] (by simp) (some ⟨nb1, 0, none⟩) 1 rfl (by intro h; cases h) (fun i y hy => ⟨nb1, 0, rfl, one_read hn2 hy⟩) HR2.out.BW ?_
      intro v3 w3 ho3 hg3 hat3
      have HR3 := Lib.hid (HR2.out.grow HO2.out hg3)
      obtain ⟨g3, c3, rfl⟩ := own_shape ho3 (by simp)
      have HO3 := Lib.hid ho3
      clear ho3 hg3 hat3
      refine hK _ _ HR3.out ?_
      clear hK K
      refine l_end ?_
      simp only [opsOf, List.getElem?_toArray, List.getElem?_cons_succ, List.getElem?_cons_zero]
      repeat (refine r_read ?_ (by kernel_rfl) ?_ (fun K hK => ?_); rotate_left 1; (intro W hR; have q9 := cell_at (j := 1) hR.k9 rfl; have q3 := cell_at (j := 1) hR.k3 rfl; have z2 := HSK.out W; clear hR; go_simp; try with_reducible rfl); go_simp; refine hK _ ?_; clear hK K)
      refine l_nile ?_
      refine l_op rfl (fun K hK => ?_)
      have e1 := cell_at (j := 1) HR3.out.k9 rfl
      have f1 : w3.frozen? ⟨b9, 1, none⟩ = false := frozen_of_row _ _ _ _ _ HR3.out.k9
      go_simp
      refine hK _ _ ⟨?_⟩
      clear hK K e1 f1
      go_wp2_with fail
      go_meet
      case rel => exact ⟨_, Out.ofK (o := o) HR3.out rfl (by have h := HO3.out; simp only [List.length_append, List.length_map, List.length_singleton, List.nil_append, Nat.zero_add, List.map_cons, List.map_nil] at h ⊢; exact h) HN'.out.1 HN'.out.2.1 HN'.out.2.2⟩
  case rest =>
  obtain ⟨kv, hout⟩ := hcut
  obtain ⟨X2, rfl⟩ : ∃ X2 : World, X2 = wc := ⟨_, rfl⟩
  have HKV : Hid (∃ g c, kv = .slice (some ⟨g, 0, none⟩) (p + 1) c) := by
    obtain ⟨g, c, h⟩ := own_shape hout.2.2.2.2.1 (by simp)
    exact ⟨g, c, by rw [h]; simp [HYL.out.1]⟩
  have HOUT2 := Lib.hid hout
  obtain ⟨kg, kc2, rfl⟩ := HKV.out
  clear hout HOUT HR0 HBX HKV
  obtain ⟨kcs, hkcs⟩ : ∃ l, l = ys.map (Value.int .i64) ++ [.int .i64 key] := ⟨_, rfl⟩
  rw [← hkcs] at HOUT2
  have HKC := Lib.hid hkcs
  clear hkcs
  clear X
  obtain ⟨X, rfl⟩ : ∃ X : World, X = X2 := ⟨_, rfl⟩
  have HR0 := Lib.hid HOUT2.out.rwV.drew
  obtain ⟨B, hB⟩ : ∃ B, B = X.heap.size := ⟨_, rfl⟩
  rw [← hB] at HR0
  have HBX := Lib.hid hB
  clear hB
  go_upto_region 4 with (fail)
  go_cut [] from 30 to 40 (fun wc => ∃ v, Out w b3 b6 b9 #[.int .u8 (o : Int), .slice ka n kc, .slice va n vc] #[.int .u8 0, .slice none 0 0, .slice none 0 0] o (Value.slice (some ⟨kg, 0, none⟩) (p + 1) kc2) kcs v (zs.map (Value.int .i64) ++ [.int .i64 val]) wc)
  case first =>
    refine region_treeL 11 (fun W => Rw w B b3 b6 b9 #[.int .u8 (o : Int), .slice ka n kc, .slice va n vc] #[.int .u8 0, .slice none 0 0, .slice none 0 0] #[.int .u8 (o : Int), (Value.slice (some ⟨kg, 0, none⟩) (p + 1) kc2), .slice none 0 0] (Value.slice (some ⟨kg, 0, none⟩) (p + 1) kc2) kcs W) (.two [0, 1, 2, 3, 4, 5, 7] 6 (.one [] 8 (.one [] 9 (.one [10] 11 .stop))) 8 (.one [] 6 (.one [] 9 (.one [10] 11 .stop)))) (by kernel_rfl) (by intro dst v c a w h; cases dst <;> exact h) (by kernel_rfl) HR0.out ?_
    refine l_two ?_
    simp only [opsOf, List.getElem?_toArray, List.getElem?_cons_succ, List.getElem?_cons_zero]
    repeat (refine r_read ?_ (by kernel_rfl) ?_ (fun K hK => ?_); rotate_left 1; (intro W hR; have q9 := cell_at (j := 2) hR.k9 rfl; have q3 := cell_at (j := 2) hR.k3 rfl; have z2 := HSV.out W; clear hR; go_simp; try with_reducible rfl); go_simp; refine hK _ ?_; clear hK K)
    refine l_nil2 ?_ ?_
    · refine r_op rfl (fun K hK => ?_)
      refine ite_yes (by kernel_rfl) ?_
      refine app_any (.tmp 31) (.tmp 35) rfl B (0) (.slice none 0 0) ([]) rfl (World.ownsRow_nil _ _ _ _) (by omega) zs (by have := HYL.out; have := HZL.out; omega) va vc (by rw [HZL.out]; rfl) HV.out.2.1 (fun i y hy => HRV.out _ HR0.out.bel i y hy) HR0.out.BW ?_
      intro v1 w1 ho1 hg1 hat1
      have HR1 := Lib.hid (HR0.out.grow (World.ownsRow_nil _ _ _ _) hg1)
      have HO1 := Lib.hid ho1
      clear ho1 hg1 hat1
      refine hK _ _ HR1.out ?_
      clear hK K
      refine l_one0 (by nofun) ?_
      refine r_op rfl (fun K hK => ?_)
      go_simp
      have hk2 : (w1.alloc (.cells #[.int .i64 val] 3)).heap[w1.heap.size]? = some (.cells #[.int .i64 val] 3 (0, 0)) := heap_alloc_last _ _
      have HR2 : Hid (Rw w B b3 b6 b9 #[.int .u8 (o : Int), .slice ka n kc, .slice va n vc] #[.int .u8 0, .slice none 0 0, .slice none 0 0] #[.int .u8 (o : Int), (Value.slice (some ⟨kg, 0, none⟩) (p + 1) kc2), .slice none 0 0] (Value.slice (some ⟨kg, 0, none⟩) (p + 1) kc2) kcs (w1.alloc (.cells #[.int .i64 val] 3))) := HR1.out.alloc (.cells #[.int .i64 val] 3)
      have HP2 := Lib.hid (HO1.out.alloc (.cells #[.int .i64 val] 3))
      refine hK _ _ HR2.out ?_
      clear hK K
      generalize (w1.alloc (.cells #[.int .i64 val] 3)) = w2 at HR2 hk2 HP2 ⊢
      obtain ⟨nb2, hnb2⟩ : ∃ b, b = w1.heap.size := ⟨_, rfl⟩
      have hkk2 : w2.heap[nb2]? = some (.cells #[.int .i64 val] 3 (0, 0)) := by rw [hnb2]; exact hk2
      rw [← hnb2]
      clear hk2 hnb2
      have hn2 : w2.cell? ⟨nb2, 0, none⟩ = some (.int .i64 val) := cell_at (j := 0) hkk2 rfl
      refine l_one0 (by nofun) ?_
      refine r_op rfl (fun K hK => ?_)
      refine ite_yes (by kernel_rfl) ?_
      refine app_any (.tmp 36) (.tmp 38) rfl B (0 + zs.length) v1 ([] ++ zs.map (Value.int .i64)) rfl HP2.out (by have := HYL.out; have := HZL.out; omega) [val] (by simp) (some ⟨nb2, 0, none⟩) 1 rfl (by intro h; cases h) (fun i y hy => ⟨nb2, 0, rfl, one_read hn2 hy⟩) HR2.out.BW ?_
      intro v3 w3 ho3 hg3 hat3
      have HR3 := Lib.hid (HR2.out.grow HP2.out hg3)
      obtain ⟨g3, c3, rfl⟩ := own_shape ho3 (by simp)
      have HO3 := Lib.hid ho3
      clear ho3 hg3 hat3
      refine hK _ _ HR3.out ?_
      clear hK K
      refine l_end ?_
      simp only [opsOf, List.getElem?_toArray, List.getElem?_cons_succ, List.getElem?_cons_zero]
      repeat (refine r_read ?_ (by kernel_rfl) ?_ (fun K hK => ?_); rotate_left 1; (intro W hR; have q9 := cell_at (j := 2) hR.k9 rfl; have q3 := cell_at (j := 2) hR.k3 rfl; have z2 := HSV.out W; clear hR; go_simp; try with_reducible rfl); go_simp; refine hK _ ?_; clear hK K)
      refine l_nile ?_
      refine l_op rfl (fun K hK => ?_)
      have e1 := cell_at (j := 2) HR3.out.k9 rfl
      have f1 : w3.frozen? ⟨b9, 2, none⟩ = false := frozen_of_row _ _ _ _ _ HR3.out.k9
      go_simp
      refine hK _ _ ⟨?_⟩
      clear hK K e1 f1
      go_wp2_with fail
      go_meet
      case rel => exact ⟨_, Out.ofV (o := o) HR3.out rfl (by have h := HO3.out; simp only [List.length_append, List.length_map, List.length_singleton, List.nil_append, Nat.zero_add, List.map_cons, List.map_nil] at h ⊢; exact h) HN'.out.1 HN'.out.2.1 HN'.out.2.2⟩
    · refine r_op rfl (fun K hK => ?_)
      go_simp
      have hk1 : (X.alloc (.cells #[.int .i64 val] 3)).drew.heap[X.heap.size]? = some (.cells #[.int .i64 val] 3 (0, 0)) := heap_alloc_last _ _
      have HR1 : Hid (Rw w B b3 b6 b9 #[.int .u8 (o : Int), .slice ka n kc, .slice va n vc] #[.int .u8 0, .slice none 0 0, .slice none 0 0] #[.int .u8 (o : Int), (Value.slice (some ⟨kg, 0, none⟩) (p + 1) kc2), .slice none 0 0] (Value.slice (some ⟨kg, 0, none⟩) (p + 1) kc2) kcs (X.alloc (.cells #[.int .i64 val] 3)).drew) := HR0.out.alloc (.cells #[.int .i64 val] 3)
      refine hK _ _ HR1.out ?_
      clear hK K
      generalize (X.alloc (.cells #[.int .i64 val] 3)).drew = w1 at HR1 hk1  ⊢
      obtain ⟨nb1, hnb1⟩ : ∃ b, b = X.heap.size := ⟨_, rfl⟩
      have hkk1 : w1.heap[nb1]? = some (.cells #[.int .i64 val] 3 (0, 0)) := by rw [hnb1]; exact hk1
      rw [← hnb1]
      clear hk1 hnb1
      have hn1 : w1.cell? ⟨nb1, 0, none⟩ = some (.int .i64 val) := cell_at (j := 0) hkk1 rfl
      refine l_one0 (by nofun) ?_
      refine r_op rfl (fun K hK => ?_)
      refine ite_yes (by kernel_rfl) ?_
      refine app_any (.tmp 31) (.tmp 35) rfl B (0) (.slice none 0 0) ([]) rfl (World.ownsRow_nil _ _ _ _) (by omega) zs (by have := HYL.out; have := HZL.out; omega) va vc (by rw [HZL.out]; rfl) HV.out.2.1 (fun i y hy => HRV.out _ HR1.out.bel i y hy) HR1.out.BW ?_
      intro v2 w2 ho2 hg2 hat2
      have HR2 := Lib.hid (HR1.out.grow (World.ownsRow_nil _ _ _ _) hg2)
      have hn2 : w2.cell? ⟨nb1, 0, none⟩ = some (.int .i64 val) := by
        refine cell_at (j := 0) ((hg2.block _ (lt_of_block hkk1) (by intro h; cases h)).trans hkk1) rfl
      have HO2 := Lib.hid ho2
      clear ho2 hg2 hat2
      refine hK _ _ HR2.out ?_
      clear hK K
      refine l_one0 (by nofun) ?_
      refine r_op rfl (fun K hK => ?_)
      refine ite_yes (by kernel_rfl) ?_
      refine app_any (.tmp 36) (.tmp 38) rfl B (0 + zs.length) v2 ([] ++ zs.map (Value.int .i64)) rfl HO2.out (by have := HYL.out; have := HZL.out; omega) [val] (by simp) (some ⟨nb1, 0, none⟩) 1 rfl (by intro h; cases h) (fun i y hy => ⟨nb1, 0, rfl, one_read hn2 hy⟩) HR2.out.BW ?_
      intro v3 w3 ho3 hg3 hat3
      have HR3 := Lib.hid (HR2.out.grow HO2.out hg3)
      obtain ⟨g3, c3, rfl⟩ := own_shape ho3 (by simp)
      have HO3 := Lib.hid ho3
      clear ho3 hg3 hat3
      refine hK _ _ HR3.out ?_
      clear hK K
      refine l_end ?_
      simp only [opsOf, List.getElem?_toArray, List.getElem?_cons_succ, List.getElem?_cons_zero]
      repeat (refine r_read ?_ (by kernel_rfl) ?_ (fun K hK => ?_); rotate_left 1; (intro W hR; have q9 := cell_at (j := 2) hR.k9 rfl; have q3 := cell_at (j := 2) hR.k3 rfl; have z2 := HSV.out W; clear hR; go_simp; try with_reducible rfl); go_simp; refine hK _ ?_; clear hK K)
      refine l_nile ?_
      refine l_op rfl (fun K hK => ?_)
      have e1 := cell_at (j := 2) HR3.out.k9 rfl
      have f1 : w3.frozen? ⟨b9, 2, none⟩ = false := frozen_of_row _ _ _ _ _ HR3.out.k9
      go_simp
      refine hK _ _ ⟨?_⟩
      clear hK K e1 f1
      go_wp2_with fail
      go_meet
      case rel => exact ⟨_, Out.ofV (o := o) HR3.out rfl (by have h := HO3.out; simp only [List.length_append, List.length_map, List.length_singleton, List.nil_append, Nat.zero_add, List.map_cons, List.map_nil] at h ⊢; exact h) HN'.out.1 HN'.out.2.1 HN'.out.2.2⟩
  case rest =>
  obtain ⟨vv, hout⟩ := hcut
  obtain ⟨X3, rfl⟩ : ∃ X3 : World, X3 = wc := ⟨_, rfl⟩
  have HVV : Hid (∃ g c, vv = .slice (some ⟨g, 0, none⟩) (p + 1) c) := by
    obtain ⟨g, c, h⟩ := own_shape hout.2.2.2.2.2.1 (by simp)
    exact ⟨g, c, by rw [h]; simp [HZL.out]⟩
  have HOUT3 := Lib.hid hout
  obtain ⟨vg, vc2, rfl⟩ := HVV.out
  clear hout HOUT2 HR0 HBX HVV HRK HRV HSK HSV
  obtain ⟨vcs, hvcs⟩ : ∃ l, l = zs.map (Value.int .i64) ++ [.int .i64 val] := ⟨_, rfl⟩
  rw [← hvcs] at HOUT3
  have HVC := Lib.hid hvcs
  clear hvcs
  clear X
  have hkl : kcs.length = p + 1 := by rw [HKC.out]; simp [HYL.out.1]
  have hvl : vcs.length = p + 1 := by rw [HVC.out]; simp [HZL.out]
  have HOK : Hid (X3.ownsRow w.heap.size 3 1 (Value.slice (some ⟨kg, 0, none⟩) (p + 1) kc2) (p + 1) kcs) := by have h := HOUT3.out.2.2.2.2.1; rw [hkl] at h; exact h
  have HOV : Hid (X3.ownsRow w.heap.size 3 1 (Value.slice (some ⟨vg, 0, none⟩) (p + 1) vc2) (p + 1) vcs) := by have h := HOUT3.out.2.2.2.2.2.1; rw [hvl] at h; exact h
  have HNE2 : Hid ((Value.slice (some ⟨kg, 0, none⟩) (p + 1) kc2).ownBlock = none ∨ (Value.slice (some ⟨kg, 0, none⟩) (p + 1) kc2).ownBlock ≠ (Value.slice (some ⟨vg, 0, none⟩) (p + 1) vc2).ownBlock) := HOUT3.out.2.2.2.2.2.2.1
  have HR2 := Lib.hid HOUT3.out.rw2
  have HX9 := Lib.hid HOUT3.out.2.2.2.1
  have HBW := Lib.hid HOUT3.out.1
  clear hkl hvl HOUT3
  have hlk := at_look (ord_ltO o) HS.out key
  rw [← HPP.out] at hlk
  have HLK := Lib.hid hlk
  clear hlk
  cases fd with
  | true =>
    obtain ⟨x, hx⟩ : ∃ x, look (ltO o) es key = some x := by
      have h := HFD.out
      cases hq : look (ltO o) es key with
      | none => rw [hq] at h; cases h
      | some x => exact ⟨x, rfl⟩
    have hpn : p < n := by
      have h := (List.getElem?_eq_some_iff.1 (HLK.out.1 x hx).1).1
      have := HN.out
      omega
    have hins : ins (ltO o) es key val = es.take p ++ (key, val) :: es.drop (p + 1) := by rw [HPP.out]; exact ins_old (ord_ltO o) HS.out val hx
    obtain ⟨l, hl⟩ : ∃ l, l = p + 1 := ⟨_, rfl⟩
    have hw1 : IntKind.i64.wrap ((p : Int) + 1) = (l : Int) := by rw [IntKind.wrap_i64]; omega
    have hw2 : (p : Int) + 1 = (l : Int) := by omega
    rw [← hl] at hins
    have hln : l ≤ n := by omega
    clear hx hpn hl
    have HINS := Lib.hid hins
    have HLN := Lib.hid hln
    obtain ⟨dk, hk1, hk2, hk3⟩ := slice22_l ka n kc l HK.out hln
    obtain ⟨dv, hv1, hv2, hv3⟩ := slice22_l va n vc l HV.out hln
    obtain ⟨yr, hyr⟩ : ∃ yr, yr = (es.map (·.1)).drop l := ⟨_, rfl⟩
    obtain ⟨zr, hzr⟩ : ∃ zr, zr = (es.map (·.2)).drop l := ⟨_, rfl⟩
    have hyl : yr.length = n - l := by rw [hyr, List.length_drop, List.length_map, ← HN.out]
    have hzl : zr.length = n - l := by rw [hzr, List.length_drop, List.length_map, ← HN.out]
    have hrk : ∀ W, Below w.heap.size w W → ∀ (i : Nat) (y : Int), yr[i]? = some y → ∃ g q, dk = some ⟨g, q, none⟩ ∧ W.cell? ⟨g, q + i, none⟩ = some (.int .i64 y) := fun W hW => by
      rw [hyr]
      exact reads_drop (by rw [List.length_map, ← HN.out]; exact HK.out.1) hk2 ((HR.out.below hW).keys)
    have hrv : ∀ W, Below w.heap.size w W → ∀ (i : Nat) (y : Int), zr[i]? = some y → ∃ g q, dv = some ⟨g, q, none⟩ ∧ W.cell? ⟨g, q + i, none⟩ = some (.int .i64 y) := fun W hW => by
      rw [hzr]
      exact reads_drop (by rw [List.length_map, ← HN.out]; exact HV.out.1) hv2 ((HR.out.below hW).vals)
    have HRK := Lib.hid hrk
    have HRV := Lib.hid hrv
    have HSK := Lib.hid hk3
    have HSV := Lib.hid hv3
    have HNK := Lib.hid hk1
    have HNV := Lib.hid hv1
    have HYR := Lib.hid hyr
    have HZR := Lib.hid hzr
    have HYRL := Lib.hid hyl
    have HZRL := Lib.hid hzl
    have HL2 := Lib.hid hl2
    obtain ⟨r, hr⟩ : ∃ r, r = n - l := ⟨_, rfl⟩
    rw [← hr] at HYRL HZRL HSK HSV
    have HRR := Lib.hid hr
    clear hk1 hk2 hk3 hv1 hv2 hv3 hyr hzr hyl hzl hrk hrv hln hr hins
    go_upto_region 7 with (fail)
    have HR0 : Hid (Rw2 w b3 b6 b9 #[.int .u8 (o : Int), .slice ka n kc, .slice va n vc] #[.int .u8 0, .slice none 0 0, .slice none 0 0] o (.slice (some ⟨vg, 0, none⟩) (p + 1) vc2) X3.drew) := HR2.out.drew
    refine region_treeL 17 (fun W => Rw2 w b3 b6 b9 #[.int .u8 (o : Int), .slice ka n kc, .slice va n vc] #[.int .u8 0, .slice none 0 0, .slice none 0 0] o (Value.slice (some ⟨vg, 0, none⟩) (p + 1) vc2) W) (.one [0, 2, 3, 4, 5, 7, 8, 9, 10, 11, 12] 1 (.one [] 6 (.one [14] 13 (.one [] 15 (.one [16] 17 .stop))))) (by kernel_rfl) (by intro dst v c a w h; cases dst <;> exact h) (by kernel_rfl) HR0.out ?_
    refine l_one (by nofun) ?_
    simp only [opsOf, List.getElem?_toArray, List.getElem?_cons_succ, List.getElem?_cons_zero]
    repeat (refine r_read ?_ (by kernel_rfl) ?_ (fun K hK => ?_); rotate_left 1; (intro W hR; obtain ⟨-, q3, -, ⟨x, q9⟩, -⟩ := id hR; have t1 := cell_at (j := 1) q3 rfl; have t2 := cell_at (j := 2) q3 rfl; have t3 := cell_at (j := 2) q9 rfl; have t4 := HSK.out W; have t5 := HSV.out W; clear hR; go_simp; try with_reducible rfl); go_simp; refine hK _ ?_; clear hK K)
    refine l_nil1 ?_
    refine r_op rfl (fun K hK => ?_)
    have e1 := cell_at (j := 1) HX9.out rfl
    go_simp
    refine hK _ _ HR0.out ?_
    clear hK K e1
    refine l_one0 (by nofun) ?_
    refine r_op rfl (fun K hK => ?_)
    refine ite_yes (by kernel_rfl) ?_
    refine app_any (.tmp 45) (.tmp 49) rfl w.heap.size (p + 1) (Value.slice (some ⟨kg, 0, none⟩) (p + 1) kc2) kcs rfl HOK.out (by have := HYL.out; omega) yr (by have := HYRL.out; have := HRR.out; have := HL2.out; omega) dk (kc - l) (by rw [HYRL.out]; rfl) HNK.out (fun i y hy => HRK.out _ HR0.out.1 i y hy) HR0.out.1.size ?_
    intro v1 w1 ho1 hg1 hat1
    have HR2a := Lib.hid (HR0.out.grow HOK.out hg1)
    have hov : w1.ownsRow w.heap.size 3 1 (Value.slice (some ⟨vg, 0, none⟩) (p + 1) vc2) (p + 1) vcs := own_but (w := X3.drew) HOV.out (but_grown hg1) fun k hk e => by
      rcases HNE2.out with h | h
      · rw [h] at e; cases e
      · exact h (e.trans hk.symm)
    have hne1 : v1.ownBlock = none ∨ v1.ownBlock ≠ (Value.slice (some ⟨vg, 0, none⟩) (p + 1) vc2).ownBlock := by
      rcases hat1 with h | h
      · rw [h]; exact HNE2.out
      · refine .inr fun e => ?_
        rw [h] at e
        have := (HOV.out.lt _ e.symm).2
        have hh : X3.drew.heap.size = X3.heap.size := rfl
        omega
    have HO1 := Lib.hid ho1
    have HOV1 := Lib.hid hov
    have HNE1 := Lib.hid hne1
    clear ho1 hg1 hat1 hov hne1
    refine hK _ _ HR2a.out ?_
    clear hK K
    refine l_one (by nofun) ?_
    simp only [opsOf, List.getElem?_toArray, List.getElem?_cons_succ, List.getElem?_cons_zero]
    repeat (refine r_read ?_ (by kernel_rfl) ?_ (fun K hK => ?_); rotate_left 1; (intro W hR; obtain ⟨-, q3, -, ⟨x, q9⟩, -⟩ := id hR; have t1 := cell_at (j := 1) q3 rfl; have t2 := cell_at (j := 2) q3 rfl; have t3 := cell_at (j := 2) q9 rfl; have t4 := HSK.out W; have t5 := HSV.out W; clear hR; go_simp; try with_reducible rfl); go_simp; refine hK _ ?_; clear hK K)
    refine l_nil1 ?_
    refine r_op rfl (fun K hK => ?_)
    refine ite_yes (by kernel_rfl) ?_
    refine app_any (.tmp 52) (.tmp 56) rfl w.heap.size (p + 1) (Value.slice (some ⟨vg, 0, none⟩) (p + 1) vc2) vcs rfl HOV1.out (by have := HYL.out; omega) zr (by have := HZRL.out; have := HRR.out; have := HL2.out; omega) dv (vc - l) (by rw [HZRL.out]; rfl) HNV.out (fun i y hy => HRV.out _ HR2a.out.1 i y hy) HR2a.out.1.size ?_
    intro v2 w2 ho2 hg2 hat2
    have HR3a := Lib.hid (HR2a.out.grow HOV1.out hg2)
    have hok : w2.ownsRow w.heap.size 3 1 v1 (p + 1 + yr.length) (kcs ++ yr.map (Value.int .i64)) := own_but HO1.out (but_grown hg2) fun k hk e => by
      rcases HNE1.out with h | h
      · rw [h] at hk; cases hk
      · exact h (hk.trans e.symm)
    have HO2 := Lib.hid ho2
    have HOK2 := Lib.hid hok
    obtain ⟨g1, cc1, hs1⟩ := own_shape hok (by omega)
    obtain ⟨g2, cc2, hs2⟩ := own_shape ho2 (by omega)
    subst hs1 hs2
    clear ho2 hg2 hat2 hok
    obtain ⟨x9, hx9⟩ := HR3a.out.2.2.2.1
    have HX29 := Lib.hid hx9
    clear hx9
    refine hK _ _ HR3a.out ?_
    clear hK K
    refine l_one0 (by nofun) ?_
    refine r_op rfl (fun K hK => ?_)
    have e1 := cell_at (j := 1) HX29.out rfl
    have f1 : w2.frozen? ⟨b9, 1, none⟩ = false := frozen_of_row _ _ _ _ _ HX29.out
    go_simp
    have HR4a := Lib.hid (HR3a.out.set (.slice (some ⟨g1, 0, none⟩) (p + 1 + yr.length) cc1))
    have HX39 : Hid ((w2.setCell ⟨b9, 1, none⟩ (.slice (some ⟨g1, 0, none⟩) (p + 1 + yr.length) cc1)).heap[b9]? = some (.cells #[.int .u8 (o : Int), .slice (some ⟨g1, 0, none⟩) (p + 1 + yr.length) cc1, (Value.slice (some ⟨vg, 0, none⟩) (p + 1) vc2)] 46 (0, 0))) := heap_setCell_same _ _ _ _ _ _ HX29.out
    refine hK _ _ HR4a.out ?_
    clear hK K e1 f1
    refine l_end ?_
    simp only [opsOf, List.getElem?_toArray, List.getElem?_cons_succ, List.getElem?_cons_zero]
    repeat (refine r_read ?_ (by kernel_rfl) ?_ (fun K hK => ?_); rotate_left 1; (intro W hR; obtain ⟨-, q3, -, ⟨x, q9⟩, -⟩ := id hR; have t1 := cell_at (j := 1) q3 rfl; have t2 := cell_at (j := 2) q3 rfl; have t3 := cell_at (j := 2) q9 rfl; have t4 := HSK.out W; have t5 := HSV.out W; clear hR; go_simp; try with_reducible rfl); go_simp; refine hK _ ?_; clear hK K)
    refine l_nile ?_
    refine l_op rfl (fun K hK => ?_)
    have e1 := cell_at (j := 2) HX39.out rfl
    have f1 : (w2.setCell ⟨b9, 1, none⟩ (Value.slice (some ⟨g1, 0, none⟩) (p + 1 + yr.length) cc1)).frozen? ⟨b9, 2, none⟩ = false := frozen_of_row _ _ _ _ _ HX39.out
    go_simp
    have HX49 : Hid (((w2.setCell ⟨b9, 1, none⟩ (Value.slice (some ⟨g1, 0, none⟩) (p + 1 + yr.length) cc1)).setCell ⟨b9, 2, none⟩ (Value.slice (some ⟨g2, 0, none⟩) (p + 1 + zr.length) cc2)).heap[b9]? = some (.cells #[.int .u8 (o : Int), (Value.slice (some ⟨g1, 0, none⟩) (p + 1 + yr.length) cc1), (Value.slice (some ⟨g2, 0, none⟩) (p + 1 + zr.length) cc2)] 46 (0, 0))) := heap_setCell_same _ _ _ _ _ _ HX39.out
    have HK4 : Hid (((w2.setCell ⟨b9, 1, none⟩ (Value.slice (some ⟨g1, 0, none⟩) (p + 1 + yr.length) cc1)).setCell ⟨b9, 2, none⟩ (Value.slice (some ⟨g2, 0, none⟩) (p + 1 + zr.length) cc2)).ownsRow w.heap.size 3 1 (Value.slice (some ⟨g1, 0, none⟩) (p + 1 + yr.length) cc1) (p + 1 + yr.length) (kcs ++ yr.map (Value.int .i64))) := own_set9 (own_set9 HOK2.out HX29.out) HX39.out
    have HV4 : Hid (((w2.setCell ⟨b9, 1, none⟩ (Value.slice (some ⟨g1, 0, none⟩) (p + 1 + yr.length) cc1)).setCell ⟨b9, 2, none⟩ (Value.slice (some ⟨g2, 0, none⟩) (p + 1 + zr.length) cc2)).ownsRow w.heap.size 3 1 (Value.slice (some ⟨g2, 0, none⟩) (p + 1 + zr.length) cc2) (p + 1 + zr.length) (vcs ++ zr.map (Value.int .i64))) := own_set9 (own_set9 HO2.out HX29.out) HX39.out
    have HE6 : Hid (((w2.setCell ⟨b9, 1, none⟩ (Value.slice (some ⟨g1, 0, none⟩) (p + 1 + yr.length) cc1)).setCell ⟨b9, 2, none⟩ (Value.slice (some ⟨g2, 0, none⟩) (p + 1 + zr.length) cc2)).heap[b6]? = some (.cells #[.int .u8 0, .slice none 0 0, .slice none 0 0] 46 (0, 0))) := by
      show _ = _
      rw [heap_setCell_other _ _ _ _ (by exact HN'.out.2.2)]
      exact HR4a.out.2.2.1
    have HBE : Hid (Below w.heap.size w ((w2.setCell ⟨b9, 1, none⟩ (Value.slice (some ⟨g1, 0, none⟩) (p + 1 + yr.length) cc1)).setCell ⟨b9, 2, none⟩ (Value.slice (some ⟨g2, 0, none⟩) (p + 1 + zr.length) cc2))) := HR4a.out.1.setCell (p := ⟨b9, 2, none⟩) HN'.out.1 _
    refine hK _ _ ⟨?_⟩
    clear hK K e1 f1
    generalize ((w2.setCell ⟨b9, 1, none⟩ (Value.slice (some ⟨g1, 0, none⟩) (p + 1 + yr.length) cc1)).setCell ⟨b9, 2, none⟩ (Value.slice (some ⟨g2, 0, none⟩) (p + 1 + zr.length) cc2)) = E at HX49 HK4 HV4 HE6 HBE ⊢
    have z0 := cell_at (j := 0) HX49.out rfl
    have z1 := cell_at (j := 1) HX49.out rfl
    have z2 := cell_at (j := 2) HX49.out rfl
    have x0 := cell_at (j := 0) HE6.out rfl
    have x1 := cell_at (j := 1) HE6.out rfl
    have x2 := cell_at (j := 2) HE6.out rfl
    have f0 : E.frozen? ⟨b6, 0, none⟩ = false := frozen_of_row _ _ _ _ _ HE6.out
    have f1 : E.frozen? ⟨b6, 1, none⟩ = false := frozen_of_row _ _ _ _ _ HE6.out
    have f2 : E.frozen? ⟨b6, 2, none⟩ = false := frozen_of_row _ _ _ _ _ HE6.out
    go_wp2_with fail
    refine bodyPost_ret (v := .agg #[.int .u8 (o : Int), (Value.slice (some ⟨g1, 0, none⟩) (p + 1 + yr.length) cc1), (Value.slice (some ⟨g2, 0, none⟩) (p + 1 + zr.length) cc2)]) (results_cell_row rfl _ _ b6 46 _ (0, 0) _ rfl (set3_at HE6.out) Try.underlying46 rfl size46) rfl ?_
    have hb6 : w.heap.size ≤ b6 := by have := HB3.out; have := HB6.out; omega
    have hbt := set3_but E b6 (.int .u8 (o : Int)) (Value.slice (some ⟨g1, 0, none⟩) (p + 1 + yr.length) cc1) (Value.slice (some ⟨g2, 0, none⟩) (p + 1 + zr.length) cc2)
    have hl1 : (es.take p).length = p := by have h := HYL.out.1; rw [HYS.out, List.length_take, List.length_map] at h; rw [List.length_take]; exact h
    have e1 : (ins (ltO o) es key val).map (·.1) = ys ++ [key] ++ yr := by
      rw [HINS.out, HYS.out, HYR.out, List.map_append, List.map_cons, List.map_take, List.map_drop, List.append_assoc]
      rfl
    have e2 : (ins (ltO o) es key val).map (·.2) = zs ++ [val] ++ zr := by
      rw [HINS.out, HZS.out, HZR.out, List.map_append, List.map_cons, List.map_take, List.map_drop, List.append_assoc]
      rfl
    have n1 : p + 1 + yr.length = (ins (ltO o) es key val).length := by
      have h := congrArg List.length e1
      rw [List.length_map, List.length_append, List.length_append, HYL.out.1] at h
      rw [h]; rfl
    have n2 : p + 1 + zr.length = (ins (ltO o) es key val).length := by
      rw [← n1, HYRL.out, HZRL.out]
    have hk := own_but HK4.out hbt (own_off HK4.out HE6.out (by decide))
    have hv := own_but HV4.out hbt (own_off HV4.out HE6.out (by decide))
    rw [HKC.out, n1, n2] at hk
    rw [HVC.out, n1, n2] at hv
    refine ⟨_, rfl, ?_, HBE.out.trans (hbt.below HBE.out.size fun k hk => by rw [hk]; exact hb6)⟩
    rw [n1, n2]
    refine pt_any (B := w.heap.size) ?_ ?_
    · rw [e1]; simpa using hk
    · rw [e2]; simpa using hv
  | false =>
    have hx : look (ltO o) es key = none := by
      have h := HFD.out
      cases hq : look (ltO o) es key with
      | none => rfl
      | some x => rw [hq] at h; cases h
    have hins : ins (ltO o) es key val = es.take p ++ (key, val) :: es.drop p := by rw [HPP.out]; exact ins_new (ord_ltO o) HS.out val hx
    obtain ⟨l, hl⟩ : ∃ l, l = p := ⟨_, rfl⟩
    have hins : ins (ltO o) es key val = es.take p ++ (key, val) :: es.drop l := by rw [hl]; exact hins
    have hw1 : (p : Int) = (l : Int) := by omega
    have hln : l ≤ n := by omega
    clear hx hl
    have HINS := Lib.hid hins
    have HLN := Lib.hid hln
    obtain ⟨dk, hk1, hk2, hk3⟩ := slice22_l ka n kc l HK.out hln
    obtain ⟨dv, hv1, hv2, hv3⟩ := slice22_l va n vc l HV.out hln
    obtain ⟨yr, hyr⟩ : ∃ yr, yr = (es.map (·.1)).drop l := ⟨_, rfl⟩
    obtain ⟨zr, hzr⟩ : ∃ zr, zr = (es.map (·.2)).drop l := ⟨_, rfl⟩
    have hyl : yr.length = n - l := by rw [hyr, List.length_drop, List.length_map, ← HN.out]
    have hzl : zr.length = n - l := by rw [hzr, List.length_drop, List.length_map, ← HN.out]
    have hrk : ∀ W, Below w.heap.size w W → ∀ (i : Nat) (y : Int), yr[i]? = some y → ∃ g q, dk = some ⟨g, q, none⟩ ∧ W.cell? ⟨g, q + i, none⟩ = some (.int .i64 y) := fun W hW => by
      rw [hyr]
      exact reads_drop (by rw [List.length_map, ← HN.out]; exact HK.out.1) hk2 ((HR.out.below hW).keys)
    have hrv : ∀ W, Below w.heap.size w W → ∀ (i : Nat) (y : Int), zr[i]? = some y → ∃ g q, dv = some ⟨g, q, none⟩ ∧ W.cell? ⟨g, q + i, none⟩ = some (.int .i64 y) := fun W hW => by
      rw [hzr]
      exact reads_drop (by rw [List.length_map, ← HN.out]; exact HV.out.1) hv2 ((HR.out.below hW).vals)
    have HRK := Lib.hid hrk
    have HRV := Lib.hid hrv
    have HSK := Lib.hid hk3
    have HSV := Lib.hid hv3
    have HNK := Lib.hid hk1
    have HNV := Lib.hid hv1
    have HYR := Lib.hid hyr
    have HZR := Lib.hid hzr
    have HYRL := Lib.hid hyl
    have HZRL := Lib.hid hzl
    have HL2 := Lib.hid hl2
    obtain ⟨r, hr⟩ : ∃ r, r = n - l := ⟨_, rfl⟩
    rw [← hr] at HYRL HZRL HSK HSV
    have HRR := Lib.hid hr
    clear hk1 hk2 hk3 hv1 hv2 hv3 hyr hzr hyl hzl hrk hrv hln hr hins
    go_upto_region 7 with (fail)
    try rw [hw1]
    have HR0 : Hid (Rw2 w b3 b6 b9 #[.int .u8 (o : Int), .slice ka n kc, .slice va n vc] #[.int .u8 0, .slice none 0 0, .slice none 0 0] o (.slice (some ⟨vg, 0, none⟩) (p + 1) vc2) X3.drew) := HR2.out.drew
    refine region_treeL 17 (fun W => Rw2 w b3 b6 b9 #[.int .u8 (o : Int), .slice ka n kc, .slice va n vc] #[.int .u8 0, .slice none 0 0, .slice none 0 0] o (Value.slice (some ⟨vg, 0, none⟩) (p + 1) vc2) W) (.one [0, 2, 3, 4, 5, 7, 8, 9, 10, 11, 12] 1 (.one [] 6 (.one [14] 13 (.one [] 15 (.one [16] 17 .stop))))) (by kernel_rfl) (by intro dst v c a w h; cases dst <;> exact h) (by kernel_rfl) HR0.out ?_
    refine l_one (by nofun) ?_
    simp only [opsOf, List.getElem?_toArray, List.getElem?_cons_succ, List.getElem?_cons_zero]
    repeat (refine r_read ?_ (by kernel_rfl) ?_ (fun K hK => ?_); rotate_left 1; (intro W hR; obtain ⟨-, q3, -, ⟨x, q9⟩, -⟩ := id hR; have t1 := cell_at (j := 1) q3 rfl; have t2 := cell_at (j := 2) q3 rfl; have t3 := cell_at (j := 2) q9 rfl; have t4 := HSK.out W; have t5 := HSV.out W; clear hR; go_simp; try with_reducible rfl); go_simp; refine hK _ ?_; clear hK K)
    refine l_nil1 ?_
    refine r_op rfl (fun K hK => ?_)
    have e1 := cell_at (j := 1) HX9.out rfl
    go_simp
    refine hK _ _ HR0.out ?_
    clear hK K e1
    refine l_one0 (by nofun) ?_
    refine r_op rfl (fun K hK => ?_)
    refine ite_yes (by kernel_rfl) ?_
    refine app_any (.tmp 45) (.tmp 49) rfl w.heap.size (p + 1) (Value.slice (some ⟨kg, 0, none⟩) (p + 1) kc2) kcs rfl HOK.out (by have := HYL.out; omega) yr (by have := HYRL.out; have := HRR.out; have := HL2.out; omega) dk (kc - l) (by rw [HYRL.out]; rfl) HNK.out (fun i y hy => HRK.out _ HR0.out.1 i y hy) HR0.out.1.size ?_
    intro v1 w1 ho1 hg1 hat1
    have HR2a := Lib.hid (HR0.out.grow HOK.out hg1)
    have hov : w1.ownsRow w.heap.size 3 1 (Value.slice (some ⟨vg, 0, none⟩) (p + 1) vc2) (p + 1) vcs := own_but (w := X3.drew) HOV.out (but_grown hg1) fun k hk e => by
      rcases HNE2.out with h | h
      · rw [h] at e; cases e
      · exact h (e.trans hk.symm)
    have hne1 : v1.ownBlock = none ∨ v1.ownBlock ≠ (Value.slice (some ⟨vg, 0, none⟩) (p + 1) vc2).ownBlock := by
      rcases hat1 with h | h
      · rw [h]; exact HNE2.out
      · refine .inr fun e => ?_
        rw [h] at e
        have := (HOV.out.lt _ e.symm).2
        have hh : X3.drew.heap.size = X3.heap.size := rfl
        omega
    have HO1 := Lib.hid ho1
    have HOV1 := Lib.hid hov
    have HNE1 := Lib.hid hne1
    clear ho1 hg1 hat1 hov hne1
    refine hK _ _ HR2a.out ?_
    clear hK K
    refine l_one (by nofun) ?_
    simp only [opsOf, List.getElem?_toArray, List.getElem?_cons_succ, List.getElem?_cons_zero]
    repeat (refine r_read ?_ (by kernel_rfl) ?_ (fun K hK => ?_); rotate_left 1; (intro W hR; obtain ⟨-, q3, -, ⟨x, q9⟩, -⟩ := id hR; have t1 := cell_at (j := 1) q3 rfl; have t2 := cell_at (j := 2) q3 rfl; have t3 := cell_at (j := 2) q9 rfl; have t4 := HSK.out W; have t5 := HSV.out W; clear hR; go_simp; try with_reducible rfl); go_simp; refine hK _ ?_; clear hK K)
    refine l_nil1 ?_
    refine r_op rfl (fun K hK => ?_)
    refine ite_yes (by kernel_rfl) ?_
    refine app_any (.tmp 52) (.tmp 56) rfl w.heap.size (p + 1) (Value.slice (some ⟨vg, 0, none⟩) (p + 1) vc2) vcs rfl HOV1.out (by have := HYL.out; omega) zr (by have := HZRL.out; have := HRR.out; have := HL2.out; omega) dv (vc - l) (by rw [HZRL.out]; rfl) HNV.out (fun i y hy => HRV.out _ HR2a.out.1 i y hy) HR2a.out.1.size ?_
    intro v2 w2 ho2 hg2 hat2
    have HR3a := Lib.hid (HR2a.out.grow HOV1.out hg2)
    have hok : w2.ownsRow w.heap.size 3 1 v1 (p + 1 + yr.length) (kcs ++ yr.map (Value.int .i64)) := own_but HO1.out (but_grown hg2) fun k hk e => by
      rcases HNE1.out with h | h
      · rw [h] at hk; cases hk
      · exact h (hk.trans e.symm)
    have HO2 := Lib.hid ho2
    have HOK2 := Lib.hid hok
    obtain ⟨g1, cc1, hs1⟩ := own_shape hok (by omega)
    obtain ⟨g2, cc2, hs2⟩ := own_shape ho2 (by omega)
    subst hs1 hs2
    clear ho2 hg2 hat2 hok
    obtain ⟨x9, hx9⟩ := HR3a.out.2.2.2.1
    have HX29 := Lib.hid hx9
    clear hx9
    refine hK _ _ HR3a.out ?_
    clear hK K
    refine l_one0 (by nofun) ?_
    refine r_op rfl (fun K hK => ?_)
    have e1 := cell_at (j := 1) HX29.out rfl
    have f1 : w2.frozen? ⟨b9, 1, none⟩ = false := frozen_of_row _ _ _ _ _ HX29.out
    go_simp
    have HR4a := Lib.hid (HR3a.out.set (.slice (some ⟨g1, 0, none⟩) (p + 1 + yr.length) cc1))
    have HX39 : Hid ((w2.setCell ⟨b9, 1, none⟩ (.slice (some ⟨g1, 0, none⟩) (p + 1 + yr.length) cc1)).heap[b9]? = some (.cells #[.int .u8 (o : Int), .slice (some ⟨g1, 0, none⟩) (p + 1 + yr.length) cc1, (Value.slice (some ⟨vg, 0, none⟩) (p + 1) vc2)] 46 (0, 0))) := heap_setCell_same _ _ _ _ _ _ HX29.out
    refine hK _ _ HR4a.out ?_
    clear hK K e1 f1
    refine l_end ?_
    simp only [opsOf, List.getElem?_toArray, List.getElem?_cons_succ, List.getElem?_cons_zero]
    repeat (refine r_read ?_ (by kernel_rfl) ?_ (fun K hK => ?_); rotate_left 1; (intro W hR; obtain ⟨-, q3, -, ⟨x, q9⟩, -⟩ := id hR; have t1 := cell_at (j := 1) q3 rfl; have t2 := cell_at (j := 2) q3 rfl; have t3 := cell_at (j := 2) q9 rfl; have t4 := HSK.out W; have t5 := HSV.out W; clear hR; go_simp; try with_reducible rfl); go_simp; refine hK _ ?_; clear hK K)
    refine l_nile ?_
    refine l_op rfl (fun K hK => ?_)
    have e1 := cell_at (j := 2) HX39.out rfl
    have f1 : (w2.setCell ⟨b9, 1, none⟩ (Value.slice (some ⟨g1, 0, none⟩) (p + 1 + yr.length) cc1)).frozen? ⟨b9, 2, none⟩ = false := frozen_of_row _ _ _ _ _ HX39.out
    go_simp
    have HX49 : Hid (((w2.setCell ⟨b9, 1, none⟩ (Value.slice (some ⟨g1, 0, none⟩) (p + 1 + yr.length) cc1)).setCell ⟨b9, 2, none⟩ (Value.slice (some ⟨g2, 0, none⟩) (p + 1 + zr.length) cc2)).heap[b9]? = some (.cells #[.int .u8 (o : Int), (Value.slice (some ⟨g1, 0, none⟩) (p + 1 + yr.length) cc1), (Value.slice (some ⟨g2, 0, none⟩) (p + 1 + zr.length) cc2)] 46 (0, 0))) := heap_setCell_same _ _ _ _ _ _ HX39.out
    have HK4 : Hid (((w2.setCell ⟨b9, 1, none⟩ (Value.slice (some ⟨g1, 0, none⟩) (p + 1 + yr.length) cc1)).setCell ⟨b9, 2, none⟩ (Value.slice (some ⟨g2, 0, none⟩) (p + 1 + zr.length) cc2)).ownsRow w.heap.size 3 1 (Value.slice (some ⟨g1, 0, none⟩) (p + 1 + yr.length) cc1) (p + 1 + yr.length) (kcs ++ yr.map (Value.int .i64))) := own_set9 (own_set9 HOK2.out HX29.out) HX39.out
    have HV4 : Hid (((w2.setCell ⟨b9, 1, none⟩ (Value.slice (some ⟨g1, 0, none⟩) (p + 1 + yr.length) cc1)).setCell ⟨b9, 2, none⟩ (Value.slice (some ⟨g2, 0, none⟩) (p + 1 + zr.length) cc2)).ownsRow w.heap.size 3 1 (Value.slice (some ⟨g2, 0, none⟩) (p + 1 + zr.length) cc2) (p + 1 + zr.length) (vcs ++ zr.map (Value.int .i64))) := own_set9 (own_set9 HO2.out HX29.out) HX39.out
    have HE6 : Hid (((w2.setCell ⟨b9, 1, none⟩ (Value.slice (some ⟨g1, 0, none⟩) (p + 1 + yr.length) cc1)).setCell ⟨b9, 2, none⟩ (Value.slice (some ⟨g2, 0, none⟩) (p + 1 + zr.length) cc2)).heap[b6]? = some (.cells #[.int .u8 0, .slice none 0 0, .slice none 0 0] 46 (0, 0))) := by
      show _ = _
      rw [heap_setCell_other _ _ _ _ (by exact HN'.out.2.2)]
      exact HR4a.out.2.2.1
    have HBE : Hid (Below w.heap.size w ((w2.setCell ⟨b9, 1, none⟩ (Value.slice (some ⟨g1, 0, none⟩) (p + 1 + yr.length) cc1)).setCell ⟨b9, 2, none⟩ (Value.slice (some ⟨g2, 0, none⟩) (p + 1 + zr.length) cc2))) := HR4a.out.1.setCell (p := ⟨b9, 2, none⟩) HN'.out.1 _
    refine hK _ _ ⟨?_⟩
    clear hK K e1 f1
    generalize ((w2.setCell ⟨b9, 1, none⟩ (Value.slice (some ⟨g1, 0, none⟩) (p + 1 + yr.length) cc1)).setCell ⟨b9, 2, none⟩ (Value.slice (some ⟨g2, 0, none⟩) (p + 1 + zr.length) cc2)) = E at HX49 HK4 HV4 HE6 HBE ⊢
    have z0 := cell_at (j := 0) HX49.out rfl
    have z1 := cell_at (j := 1) HX49.out rfl
    have z2 := cell_at (j := 2) HX49.out rfl
    have x0 := cell_at (j := 0) HE6.out rfl
    have x1 := cell_at (j := 1) HE6.out rfl
    have x2 := cell_at (j := 2) HE6.out rfl
    have f0 : E.frozen? ⟨b6, 0, none⟩ = false := frozen_of_row _ _ _ _ _ HE6.out
    have f1 : E.frozen? ⟨b6, 1, none⟩ = false := frozen_of_row _ _ _ _ _ HE6.out
    have f2 : E.frozen? ⟨b6, 2, none⟩ = false := frozen_of_row _ _ _ _ _ HE6.out
    go_wp2_with fail
    refine bodyPost_ret (v := .agg #[.int .u8 (o : Int), (Value.slice (some ⟨g1, 0, none⟩) (p + 1 + yr.length) cc1), (Value.slice (some ⟨g2, 0, none⟩) (p + 1 + zr.length) cc2)]) (results_cell_row rfl _ _ b6 46 _ (0, 0) _ rfl (set3_at HE6.out) Try.underlying46 rfl size46) rfl ?_
    have hb6 : w.heap.size ≤ b6 := by have := HB3.out; have := HB6.out; omega
    have hbt := set3_but E b6 (.int .u8 (o : Int)) (Value.slice (some ⟨g1, 0, none⟩) (p + 1 + yr.length) cc1) (Value.slice (some ⟨g2, 0, none⟩) (p + 1 + zr.length) cc2)
    have hl1 : (es.take p).length = p := by have h := HYL.out.1; rw [HYS.out, List.length_take, List.length_map] at h; rw [List.length_take]; exact h
    have e1 : (ins (ltO o) es key val).map (·.1) = ys ++ [key] ++ yr := by
      rw [HINS.out, HYS.out, HYR.out, List.map_append, List.map_cons, List.map_take, List.map_drop, List.append_assoc]
      rfl
    have e2 : (ins (ltO o) es key val).map (·.2) = zs ++ [val] ++ zr := by
      rw [HINS.out, HZS.out, HZR.out, List.map_append, List.map_cons, List.map_take, List.map_drop, List.append_assoc]
      rfl
    have n1 : p + 1 + yr.length = (ins (ltO o) es key val).length := by
      have h := congrArg List.length e1
      rw [List.length_map, List.length_append, List.length_append, HYL.out.1] at h
      rw [h]; rfl
    have n2 : p + 1 + zr.length = (ins (ltO o) es key val).length := by
      rw [← n1, HYRL.out, HZRL.out]
    have hk := own_but HK4.out hbt (own_off HK4.out HE6.out (by decide))
    have hv := own_but HV4.out hbt (own_off HV4.out HE6.out (by decide))
    rw [HKC.out, n1, n2] at hk
    rw [HVC.out, n1, n2] at hv
    refine ⟨_, rfl, ?_, HBE.out.trans (hbt.below HBE.out.size fun k hk => by rw [hk]; exact hb6)⟩
    rw [n1, n2]
    refine pt_any (B := w.heap.size) ?_ ?_
    · rw [e1]; simpa using hk
    · rw [e2]; simpa using hv
end Go.Proofs.Ytefigjdebakccaa

namespace Go.Proofs.Ytefigjdebakccaa
open Go.RowKit

set_option maxRecDepth 100000 in
set_option maxHeartbeats 3200000 in
theorem without_w (o : Nat) (key : Int) (es : List (Int × Int)) (hs : Srt (ltO o) es) (hl : es.length < 100000) (pv : Value) (w : World) (hp : PT w pv o es) :
    Calls Try.prog 42 #[pv, .int .i64 key] w fun e w' => ∃ v, e = .returned v ∧ PT w' v o (del (ltO o) es key) ∧ Below w.heap.size w w' := by
  have HPT := Lib.hid hp
  obtain ⟨ka, kc, va, vc, rfl, hr, hk, hv⟩ := hp.pvc
  obtain ⟨n, hn⟩ : ∃ n, n = es.length := ⟨_, rfl⟩
  have hbx : Below w.heap.size w ((w.alloc (.cells #[.int .u8 (o : Int), .slice ka es.length kc, .slice va es.length vc] 46)).alloc (.cells #[.int .u8 0, .slice none 0 0, .slice none 0 0] 46)) := ((Below.refl _ _).alloc (Nat.le_refl _) _).alloc (by rw [size_alloc]; omega) _
  have HPL := Lib.hid (place_w o key es hs (by omega) ka va kc es.length vc _ fun i e he => (hr.below hbx i e he).1)
  have hlk := at_look (ord_ltO o) hs key
  have hle := at_le (lt := ltO o) es key
  have HS := Lib.hid hs
  have HR := Lib.hid hr
  obtain ⟨p, hpp⟩ : ∃ p, p = at_ (ltO o) es key := ⟨_, rfl⟩
  obtain ⟨fd, hfd⟩ : ∃ fd, fd = (look (ltO o) es key).isSome := ⟨_, rfl⟩
  rw [← hpp, ← hfd] at HPL
  rw [← hpp] at hlk
  rw [← hn, ← hpp] at hle
  rw [← hn] at HPL hbx hk hv HPT ⊢
  have HN := Lib.hid hn
  have HPP := Lib.hid hpp
  have HFD := Lib.hid hfd
  have HLK := Lib.hid hlk
  have HK := Lib.hid hk
  have HV := Lib.hid hv
  have HL2 : Hid (n < 100000) := by show n < 100000; omega
  have HX3 : Hid (((w.alloc (.cells #[.int .u8 (o : Int), .slice ka n kc, .slice va n vc] 46)).alloc (.cells #[.int .u8 0, .slice none 0 0, .slice none 0 0] 46)).heap[w.heap.size]? = some (.cells #[.int .u8 (o : Int), .slice ka n kc, .slice va n vc] 46 (0, 0))) := at_alloc (heap_alloc_last w _)
  have HX6 : Hid (((w.alloc (.cells #[.int .u8 (o : Int), .slice ka n kc, .slice va n vc] 46)).alloc (.cells #[.int .u8 0, .slice none 0 0, .slice none 0 0] 46)).heap[w.heap.size + 1]? = some (.cells #[.int .u8 0, .slice none 0 0, .slice none 0 0] 46 (0, 0))) := by
    have h := heap_alloc_last (w.alloc (.cells #[.int .u8 (o : Int), .slice ka n kc, .slice va n vc] 46)) (.cells #[.int .u8 0, .slice none 0 0, .slice none 0 0] 46)
    rw [size_alloc] at h
    exact h
  have HBX := Lib.hid hbx
  clear hs hr hn hpp hfd hk hv hbx hl hlk
  go_enter Try.func42, Try.ntmps42
  go_upto_region 1 with (fail)
  generalize (w.alloc (.cells #[.int .u8 (o : Int), .slice ka n kc, .slice va n vc] 46)).alloc (.cells #[.int .u8 0, .slice none 0 0, .slice none 0 0] 46) = X at HPL HX3 HX6 HBX ⊢
  obtain ⟨b3, hb3⟩ : ∃ b, b = w.heap.size := ⟨_, rfl⟩
  obtain ⟨b6, hb6⟩ : ∃ b, b = b3 + 1 := ⟨_, rfl⟩
  rw [← hb3] at HX3 HX6 ⊢
  rw [← hb6] at HX6 ⊢
  have HB6 : Hid (w.heap.size ≤ b6) := by show w.heap.size ≤ b6; omega
  clear hb3 hb6
  have y0 := cell_at (j := 0) HX3.out rfl
  have y1 := cell_at (j := 1) HX3.out rfl
  have y2 := cell_at (j := 2) HX3.out rfl
  go_wp2_with fail
  refine HPL.out.mono ?_
  rintro e w2 ⟨rfl, hb2⟩
  have HX32 := Lib.hid (below_at hb2 HX3.out)
  have HX62 := Lib.hid (below_at hb2 HX6.out)
  have HB2 := Lib.hid (HBX.out.trans (hb2.mono HBX.out.size))
  clear y0 y1 y2 hb2 HX3 HX6 HPL HBX
  have y0 := cell_at (j := 0) HX32.out rfl
  cases fd with
  | false =>
    have y1 := cell_at (j := 1) HX32.out rfl
    have y2 := cell_at (j := 2) HX32.out rfl
    have x0 := cell_at (j := 0) HX62.out rfl
    have x1 := cell_at (j := 1) HX62.out rfl
    have x2 := cell_at (j := 2) HX62.out rfl
    have f0 : w2.frozen? ⟨b6, 0, none⟩ = false := frozen_of_row _ _ _ _ _ HX62.out
    have f1 : w2.frozen? ⟨b6, 1, none⟩ = false := frozen_of_row _ _ _ _ _ HX62.out
    have f2 : w2.frozen? ⟨b6, 2, none⟩ = false := frozen_of_row _ _ _ _ _ HX62.out
    go_wp2_with fail
    refine bodyPost_ret (v := .agg #[.int .u8 (o : Int), .slice ka n kc, .slice va n vc]) (results_cell_row rfl _ _ b6 46 _ (0, 0) _ rfl (set3_at HX62.out) Try.underlying46 rfl size46) rfl ?_
    have hbt := set3_but w2 b6 (.int .u8 (o : Int)) (.slice ka n kc) (.slice va n vc)
    have hB : Below w.heap.size w _ := HB2.out.trans (hbt.below HB2.out.size fun k hk => by rw [hk]; exact HB6.out)
    have hd : del (ltO o) es key = es := by
      have h := HFD.out
      cases hq : look (ltO o) es key with
      | none => exact del_new (ord_ltO o) HS.out hq
      | some x => rw [hq] at h; cases h
    refine ⟨_, rfl, ?_, hB⟩
    rw [hd]
    exact HPT.out.below hB
  | true =>
    obtain ⟨x, hx⟩ : ∃ x, look (ltO o) es key = some x := by
      have h := HFD.out
      cases hq : look (ltO o) es key with
      | none => rw [hq] at h; cases h
      | some x => exact ⟨x, rfl⟩
    have hpn : p < n := by
      have h := (List.getElem?_eq_some_iff.1 (HLK.out.1 x hx).1).1
      have := HN.out
      omega
    have hdel : del (ltO o) es key = es.take p ++ es.drop (p + 1) := by rw [HPP.out]; exact del_old (ord_ltO o) HS.out hx
    obtain ⟨l, hl⟩ : ∃ l, l = p + 1 := ⟨_, rfl⟩
    have hw1 : IntKind.i64.wrap ((p : Int) + 1) = (l : Int) := by have := HL2.out; rw [IntKind.wrap_i64]; omega
    have hw2 : (p : Int) + 1 = (l : Int) := by omega
    have hw3 : IntKind.i64.wrap (l : Int) = (l : Int) := by have := HL2.out; rw [IntKind.wrap_i64]; omega
    rw [← hl] at hdel
    have hln : l ≤ n := by omega
    have HDEL := Lib.hid hdel
    clear hx hpn hl hdel
    obtain ⟨ys, hys⟩ : ∃ ys, ys = (es.map (·.1)).take p := ⟨_, rfl⟩
    obtain ⟨zs, hzs⟩ : ∃ zs, zs = (es.map (·.2)).take p := ⟨_, rfl⟩
    obtain ⟨yr, hyr⟩ : ∃ yr, yr = (es.map (·.1)).drop l := ⟨_, rfl⟩
    obtain ⟨zr, hzr⟩ : ∃ zr, zr = (es.map (·.2)).drop l := ⟨_, rfl⟩
    obtain ⟨r, hr⟩ : ∃ r, r = n - l := ⟨_, rfl⟩
    have HYL : Hid (ys.length = p ∧ p ≤ 100000) := by
      refine ⟨?_, by have := HL2.out; omega⟩
      rw [hys, List.length_take, List.length_map, ← HN.out]; omega
    have HZL : Hid (zs.length = p) := by
      show zs.length = p
      rw [hzs, List.length_take, List.length_map, ← HN.out]; omega
    have HYRL : Hid (yr.length = r ∧ r ≤ 100000) := by
      refine ⟨?_, by have := HL2.out; omega⟩
      rw [hyr, List.length_drop, List.length_map, ← HN.out, hr]
    have HZRL : Hid (zr.length = r) := by
      show zr.length = r
      rw [hzr, List.length_drop, List.length_map, ← HN.out, hr]
    obtain ⟨dk, hk1, hk2, hk3⟩ := slice22_l ka n kc l HK.out hln
    obtain ⟨dv, hv1, hv2, hv3⟩ := slice22_l va n vc l HV.out hln
    rw [← hr] at hk3 hv3
    have HRK : Hid (∀ W, Below w.heap.size w W → ∀ (i : Nat) (y : Int), ys[i]? = some y → ∃ g q, ka = some ⟨g, q, none⟩ ∧ W.cell? ⟨g, q + i, none⟩ = some (.int .i64 y)) := fun W hW => by
      rw [hys]
      exact reads_take ((HR.out.below hW).keys)
    have HRV : Hid (∀ W, Below w.heap.size w W → ∀ (i : Nat) (y : Int), zs[i]? = some y → ∃ g q, va = some ⟨g, q, none⟩ ∧ W.cell? ⟨g, q + i, none⟩ = some (.int .i64 y)) := fun W hW => by
      rw [hzs]
      exact reads_take ((HR.out.below hW).vals)
    have HRK2 : Hid (∀ W, Below w.heap.size w W → ∀ (i : Nat) (y : Int), yr[i]? = some y → ∃ g q, dk = some ⟨g, q, none⟩ ∧ W.cell? ⟨g, q + i, none⟩ = some (.int .i64 y)) := fun W hW => by
      rw [hyr]
      exact reads_drop (by rw [List.length_map, ← HN.out]; exact HK.out.1) hk2 ((HR.out.below hW).keys)
    have HRV2 : Hid (∀ W, Below w.heap.size w W → ∀ (i : Nat) (y : Int), zr[i]? = some y → ∃ g q, dv = some ⟨g, q, none⟩ ∧ W.cell? ⟨g, q + i, none⟩ = some (.int .i64 y)) := fun W hW => by
      rw [hzr]
      exact reads_drop (by rw [List.length_map, ← HN.out]; exact HV.out.1) hv2 ((HR.out.below hW).vals)
    have HSK := Lib.hid (slice22_h ka n kc p HK.out hle)
    have HSV := Lib.hid (slice22_h va n vc p HV.out hle)
    have HSK2 := Lib.hid hk3
    have HSV2 := Lib.hid hv3
    have HNK := Lib.hid hk1
    have HNV := Lib.hid hv1
    have HYS := Lib.hid hys
    have HZS := Lib.hid hzs
    have HYR := Lib.hid hyr
    have HZR := Lib.hid hzr
    clear hk1 hk2 hk3 hv1 hv2 hv3 hyr hzr hys hzs hr hln hle
    go_upto_region 5 with (fail)
    have hbx : Below w2.heap.size w2 (w2.alloc (.cells #[.int .u8 (o : Int), .slice none 0 0, .slice none 0 0] 46)) := (Below.refl _ _).alloc (Nat.le_refl _) _
    have HOUT : Hid (Out w b3 b6 w2.heap.size #[.int .u8 (o : Int), .slice ka n kc, .slice va n vc] #[.int .u8 0, .slice none 0 0, .slice none 0 0] o (Value.slice none 0 0) [] (Value.slice none 0 0) [] (w2.alloc (.cells #[.int .u8 (o : Int), .slice none 0 0, .slice none 0 0] 46))) :=
      ⟨HB2.out.trans (hbx.mono HB2.out.size), below_at hbx HX32.out, below_at hbx HX62.out, heap_alloc_last w2 _, World.ownsRow_nil _ _ _ _, World.ownsRow_nil _ _ _ _, .inl rfl, HB2.out.size, by have := lt_of_block HX32.out; omega, by have := lt_of_block HX62.out; omega⟩
    clear hbx HX32 HX62 HB2 y0
    generalize w2.alloc (.cells #[.int .u8 (o : Int), .slice none 0 0, .slice none 0 0] 46) = X at HOUT ⊢
    generalize w2.heap.size = b9 at HOUT ⊢
    clear w2
    have HN' : Hid (w.heap.size ≤ b9 ∧ b3 ≠ b9 ∧ b6 ≠ b9) := HOUT.out.2.2.2.2.2.2.2
    have HR0 := Lib.hid HOUT.out.rwK.drew
    obtain ⟨B, hB⟩ : ∃ B, B = X.heap.size := ⟨_, rfl⟩
    rw [← hB] at HR0
    clear hB
    go_cut [] from 20 to 33 (fun wc => ∃ (a : Option Addr) (m : Nat), ∃ c : Nat, Out w b3 b6 b9 #[.int .u8 (o : Int), .slice ka n kc, .slice va n vc] #[.int .u8 0, .slice none 0 0, .slice none 0 0] o (.slice a m c) (ys.map (Value.int .i64) ++ yr.map (Value.int .i64)) (Value.slice none 0 0) [] wc)
    case first =>
      refine region_treeL 14 (fun W => Rw w B b3 b6 b9 #[.int .u8 (o : Int), .slice ka n kc, .slice va n vc] #[.int .u8 0, .slice none 0 0, .slice none 0 0] #[.int .u8 (o : Int), (Value.slice none 0 0), (Value.slice none 0 0)] (Value.slice none 0 0) [] W) (.one [0, 1, 2, 3, 4, 5, 7, 8, 9, 10, 11] 6 (.one [] 12 (.one [13] 14 .stop))) (by kernel_rfl) (by intro dst v c a w h; cases dst <;> exact h) (by kernel_rfl) HR0.out ?_
      refine l_one (by nofun) ?_
      simp only [opsOf, List.getElem?_toArray, List.getElem?_cons_succ, List.getElem?_cons_zero]
      repeat (refine r_read ?_ (by kernel_rfl) ?_ (fun K hK => ?_); rotate_left 1; (intro W hR; have q9 := cell_at (j := 1) hR.k9 rfl; have q3 := cell_at (j := 1) hR.k3 rfl; have z2 := HSK.out W; have z3 := HSK2.out W; clear hR; go_simp; try with_reducible rfl); go_simp; refine hK _ ?_; clear hK K)
      refine l_nil1 ?_
      refine r_op rfl (fun K hK => ?_)
      refine ite_yes (by kernel_rfl) ?_
      refine app_any (.tmp 21) (.tmp 25) rfl B 0 (Value.slice none 0 0) [] rfl (World.ownsRow_nil _ _ _ _) (by omega) ys (by have h := HYL.out.1; have := HYL.out.2; omega) ka kc (by rw [HYL.out.1]; rfl) HK.out.2.1 (fun i y hy => HRK.out _ HR0.out.bel i y hy) HR0.out.BW ?_
      intro v1 w1 ho1 hg1 hat1
      have HR1a := Lib.hid (HR0.out.grow (World.ownsRow_nil _ _ _ _) hg1)
      have HO1 := Lib.hid ho1
      clear ho1 hg1 hat1
      refine hK _ _ HR1a.out ?_
      clear hK K
      refine l_one0 (by nofun) ?_
      refine r_op rfl (fun K hK => ?_)
      refine ite_yes (by kernel_rfl) ?_
      refine app_any (.tmp 26) (.tmp 31) rfl B (0 + ys.length) v1 ([] ++ ys.map (Value.int .i64)) rfl HO1.out (by have h := HYL.out.1; have := HYL.out.2; omega) yr (by have h := HYRL.out.1; have := HYRL.out.2; omega) dk (kc - l) (by rw [HYRL.out.1]; rfl) HNK.out (fun i y hy => HRK2.out _ HR1a.out.bel i y hy) HR1a.out.BW ?_
      intro v2 w2 ho2 hg2 hat2
      have HR2a := Lib.hid (HR1a.out.grow HO1.out hg2)
      obtain ⟨a2, cc2, rfl⟩ := own_len ho2
      have HO2 := Lib.hid ho2
      clear ho2 hg2 hat2
      refine hK _ _ HR2a.out ?_
      clear hK K
      refine l_end ?_
      simp only [opsOf, List.getElem?_toArray, List.getElem?_cons_succ, List.getElem?_cons_zero]
      repeat (refine r_read ?_ (by kernel_rfl) ?_ (fun K hK => ?_); rotate_left 1; (intro W hR; have q9 := cell_at (j := 1) hR.k9 rfl; have q3 := cell_at (j := 1) hR.k3 rfl; have z2 := HSK.out W; have z3 := HSK2.out W; clear hR; go_simp; try with_reducible rfl); go_simp; refine hK _ ?_; clear hK K)
      refine l_nile ?_
      refine l_op rfl (fun K hK => ?_)
      have e1 := cell_at (j := 1) HR2a.out.k9 rfl
      have f1 : w2.frozen? ⟨b9, 1, none⟩ = false := frozen_of_row _ _ _ _ _ HR2a.out.k9
      go_simp
      refine hK _ _ ⟨?_⟩
      clear hK K e1 f1
      go_wp2_with fail
      go_meet
      case rel => exact ⟨_, _, _, Out.ofK (o := o) HR2a.out rfl (by have h := HO2.out; simp only [List.length_append, List.length_map, List.nil_append, Nat.zero_add] at h ⊢; exact h) HN'.out.1 HN'.out.2.1 HN'.out.2.2⟩
    case rest =>
    obtain ⟨ak, nk, ck, hout⟩ := hcut
    obtain ⟨X2, rfl⟩ : ∃ X2 : World, X2 = wc := ⟨_, rfl⟩
    clear HOUT HR0
    have HOUT := Lib.hid hout
    clear hout
    clear X
    obtain ⟨X, rfl⟩ : ∃ X : World, X = X2 := ⟨_, rfl⟩
    obtain ⟨kcs, hkcs⟩ : ∃ l, l = ys.map (Value.int .i64) ++ yr.map (Value.int .i64) := ⟨_, rfl⟩
    rw [← hkcs] at HOUT
    have HKC := Lib.hid hkcs
    clear hkcs B
    go_upto_region 6 with (fail)
    have HR0 := Lib.hid HOUT.out.rwV.drew
    obtain ⟨B, hB⟩ : ∃ B, B = X.heap.size := ⟨_, rfl⟩
    rw [← hB] at HR0
    clear hB
    go_cut [] from 34 to 47 (fun wc => ∃ (a : Option Addr) (m : Nat), ∃ c : Nat, Out w b3 b6 b9 #[.int .u8 (o : Int), .slice ka n kc, .slice va n vc] #[.int .u8 0, .slice none 0 0, .slice none 0 0] o (Value.slice ak nk ck) kcs (.slice a m c) (zs.map (Value.int .i64) ++ zr.map (Value.int .i64)) wc)
    case first =>
      refine region_treeL 14 (fun W => Rw w B b3 b6 b9 #[.int .u8 (o : Int), .slice ka n kc, .slice va n vc] #[.int .u8 0, .slice none 0 0, .slice none 0 0] #[.int .u8 (o : Int), (Value.slice ak nk ck), (Value.slice none 0 0)] (Value.slice ak nk ck) kcs W) (.one [0, 1, 2, 3, 4, 5, 7, 8, 9, 10, 11] 6 (.one [] 12 (.one [13] 14 .stop))) (by kernel_rfl) (by intro dst v c a w h; cases dst <;> exact h) (by kernel_rfl) HR0.out ?_
      refine l_one (by nofun) ?_
      simp only [opsOf, List.getElem?_toArray, List.getElem?_cons_succ, List.getElem?_cons_zero]
      repeat (refine r_read ?_ (by kernel_rfl) ?_ (fun K hK => ?_); rotate_left 1; (intro W hR; have q9 := cell_at (j := 2) hR.k9 rfl; have q3 := cell_at (j := 2) hR.k3 rfl; have z2 := HSV.out W; have z3 := HSV2.out W; clear hR; go_simp; try with_reducible rfl); go_simp; refine hK _ ?_; clear hK K)
      refine l_nil1 ?_
      refine r_op rfl (fun K hK => ?_)
      refine ite_yes (by kernel_rfl) ?_
      refine app_any (.tmp 35) (.tmp 39) rfl B 0 (Value.slice none 0 0) [] rfl (World.ownsRow_nil _ _ _ _) (by omega) zs (by have h := HZL.out; have := HYL.out.2; omega) va vc (by rw [HZL.out]; rfl) HV.out.2.1 (fun i y hy => HRV.out _ HR0.out.bel i y hy) HR0.out.BW ?_
      intro v1 w1 ho1 hg1 hat1
      have HR1a := Lib.hid (HR0.out.grow (World.ownsRow_nil _ _ _ _) hg1)
      have HO1 := Lib.hid ho1
      clear ho1 hg1 hat1
      refine hK _ _ HR1a.out ?_
      clear hK K
      refine l_one0 (by nofun) ?_
      refine r_op rfl (fun K hK => ?_)
      refine ite_yes (by kernel_rfl) ?_
      refine app_any (.tmp 40) (.tmp 45) rfl B (0 + zs.length) v1 ([] ++ zs.map (Value.int .i64)) rfl HO1.out (by have h := HZL.out; have := HYL.out.2; omega) zr (by have h := HZRL.out; have := HYRL.out.2; omega) dv (vc - l) (by rw [HZRL.out]; rfl) HNV.out (fun i y hy => HRV2.out _ HR1a.out.bel i y hy) HR1a.out.BW ?_
      intro v2 w2 ho2 hg2 hat2
      have HR2a := Lib.hid (HR1a.out.grow HO1.out hg2)
      obtain ⟨a2, cc2, rfl⟩ := own_len ho2
      have HO2 := Lib.hid ho2
      clear ho2 hg2 hat2
      refine hK _ _ HR2a.out ?_
      clear hK K
      refine l_end ?_
      simp only [opsOf, List.getElem?_toArray, List.getElem?_cons_succ, List.getElem?_cons_zero]
      repeat (refine r_read ?_ (by kernel_rfl) ?_ (fun K hK => ?_); rotate_left 1; (intro W hR; have q9 := cell_at (j := 2) hR.k9 rfl; have q3 := cell_at (j := 2) hR.k3 rfl; have z2 := HSV.out W; have z3 := HSV2.out W; clear hR; go_simp; try with_reducible rfl); go_simp; refine hK _ ?_; clear hK K)
      refine l_nile ?_
      refine l_op rfl (fun K hK => ?_)
      have e1 := cell_at (j := 2) HR2a.out.k9 rfl
      have f1 : w2.frozen? ⟨b9, 2, none⟩ = false := frozen_of_row _ _ _ _ _ HR2a.out.k9
      go_simp
      refine hK _ _ ⟨?_⟩
      clear hK K e1 f1
      go_wp2_with fail
      go_meet
      case rel => exact ⟨_, _, _, Out.ofV (o := o) HR2a.out rfl (by have h := HO2.out; simp only [List.length_append, List.length_map, List.nil_append, Nat.zero_add] at h ⊢; exact h) HN'.out.1 HN'.out.2.1 HN'.out.2.2⟩
    case rest =>
    obtain ⟨av, nv, cv, hout⟩ := hcut
    obtain ⟨E, rfl⟩ : ∃ E : World, E = wc := ⟨_, rfl⟩
    obtain ⟨hBE, -, hE6, hE9, hok, hov, -⟩ := hout
    have HBE := Lib.hid hBE
    have HE6 := Lib.hid hE6
    have HX49 := Lib.hid hE9
    have HK4 := Lib.hid hok
    have HV4 := Lib.hid hov
    clear hBE hE6 hE9 hok hov HOUT HR0
    have z0 := cell_at (j := 0) HX49.out rfl
    have z1 := cell_at (j := 1) HX49.out rfl
    have z2 := cell_at (j := 2) HX49.out rfl
    have x0 := cell_at (j := 0) HE6.out rfl
    have x1 := cell_at (j := 1) HE6.out rfl
    have x2 := cell_at (j := 2) HE6.out rfl
    have f0 : E.frozen? ⟨b6, 0, none⟩ = false := frozen_of_row _ _ _ _ _ HE6.out
    have f1 : E.frozen? ⟨b6, 1, none⟩ = false := frozen_of_row _ _ _ _ _ HE6.out
    have f2 : E.frozen? ⟨b6, 2, none⟩ = false := frozen_of_row _ _ _ _ _ HE6.out
    go_wp2_with fail
    refine bodyPost_ret (v := .agg #[.int .u8 (o : Int), (Value.slice ak nk ck), .slice av nv cv]) (results_cell_row rfl _ _ b6 46 _ (0, 0) _ rfl (set3_at HE6.out) Try.underlying46 rfl size46) rfl ?_
    have hbt := set3_but E b6 (.int .u8 (o : Int)) (Value.slice ak nk ck) (.slice av nv cv)
    have e1 : (del (ltO o) es key).map (·.1) = ys ++ yr := by
      rw [HDEL.out, HYS.out, HYR.out, List.map_append, List.map_take, List.map_drop]
    have e2 : (del (ltO o) es key).map (·.2) = zs ++ zr := by
      rw [HDEL.out, HZS.out, HZR.out, List.map_append, List.map_take, List.map_drop]
    have n1 : (del (ltO o) es key).length = ys.length + yr.length := by
      have h := congrArg List.length e1
      rwa [List.length_map, List.length_append] at h
    have n2 : (del (ltO o) es key).length = zs.length + zr.length := by
      have h := congrArg List.length e2
      rwa [List.length_map, List.length_append] at h
    have hk := own_but HK4.out hbt (own_off HK4.out HE6.out (by decide))
    have hv := own_but HV4.out hbt (own_off HV4.out HE6.out (by decide))
    rw [HKC.out] at hk
    refine ⟨_, rfl, pt_any (B := w.heap.size) ?_ ?_, HBE.out.trans (hbt.below HBE.out.size fun k hk => by rw [hk]; exact HB6.out)⟩
    · rw [e1, n1, List.map_append]; simpa using hk
    · rw [e2, n2, List.map_append]; simpa using hv
end Go.Proofs.Ytefigjdebakccaa
