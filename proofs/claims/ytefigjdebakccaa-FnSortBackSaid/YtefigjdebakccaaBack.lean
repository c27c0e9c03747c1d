/- The walk over the law FnSortBack. -/
import Derived.Test.YtefigjdebakccaaAsk
import Derived.Test.YtefigjdebakccaaCln
namespace Go.Proofs.Ytefigjdebakccaa
open Go.RowKit

def bask : List Stp := [⟨4, 0, 0, 0, []⟩, ⟨5, 0, 0, 0, []⟩, ⟨3, 0, 0, 0, []⟩]
def baskCells : Array Value := #[.int .u8 4, .int .i64 0, .int .i64 0, .int .i64 0, .slice none 0 0, .int .u8 5, .int .i64 0, .int .i64 0, .int .i64 0, .slice none 0 0, .int .u8 3, .int .i64 0, .int .i64 0, .int .i64 0, .slice none 0 0]
theorem bask_stps (w : World) : StpsV (w.alloc (.cells baskCells 27)) (.slice (some ⟨w.heap.size, 0, none⟩) 3 3) bask := by
  have h := heap_alloc_last w (.cells baskCells 27)
  refine ⟨_, 3, rfl, fun i s hs => ⟨w.heap.size, 0, .slice none 0 0, rfl, ?_⟩⟩
  have key : ∀ n : Nat, s.moves = [] → baskCells[n * 5]? = some (.int .u8 (s.op : Int)) → baskCells[n * 5 + 1]? = some (.int .i64 (s.on : Int)) → baskCells[n * 5 + 2]? = some (.int .i64 s.key) → baskCells[n * 5 + 3]? = some (.int .i64 s.val) → baskCells[n * 5 + 4]? = some (.slice none 0 0) →
      (w.alloc (.cells baskCells 27)).cell? ⟨w.heap.size, 0 + n * 5, none⟩ = some (.int .u8 (s.op : Int)) ∧ (w.alloc (.cells baskCells 27)).cell? ⟨w.heap.size, 0 + n * 5 + 1, none⟩ = some (.int .i64 (s.on : Int)) ∧ (w.alloc (.cells baskCells 27)).cell? ⟨w.heap.size, 0 + n * 5 + 2, none⟩ = some (.int .i64 s.key) ∧
      (w.alloc (.cells baskCells 27)).cell? ⟨w.heap.size, 0 + n * 5 + 3, none⟩ = some (.int .i64 s.val) ∧ (w.alloc (.cells baskCells 27)).cell? ⟨w.heap.size, 0 + n * 5 + 4, none⟩ = some (.slice none 0 0) ∧ MovesV (w.alloc (.cells baskCells 27)) (.slice none 0 0) s.moves := by
    intro n h0 h1 h2 h3 h4 h5
    rw [Nat.zero_add]
    exact ⟨cell_at h h1, cell_at h h2, cell_at h h3, cell_at h h4, cell_at h h5, by rw [h0]; exact movesV_nil _⟩
  match i, hs with
  | 0, hs => cases hs; exact key 0 rfl rfl rfl rfl rfl rfl
  | 1, hs => cases hs; exact key 1 rfl rfl rfl rfl rfl rfl
  | 2, hs => cases hs; exact key 2 rfl rfl rfl rfl rfl rfl
  | i + 3, hs => simp [bask] at hs
theorem bask_ok : ∀ s ∈ bask, 2 ≤ s.op ∧ s.op ≤ 6 ∧ (∀ m ∈ s.moves, m.1 ≤ 5) ∧ s.moves.length ≤ 100000 := by
  intro s hs
  simp only [bask, List.mem_cons, List.not_mem_nil, or_false] at hs
  rcases hs with rfl | rfl | rfl <;> simp
def baskAt (w : World) (g q : Nat) (es : Es) (k0 v0 k1 v1 : Value) : Prop := (w.cell? ⟨g, q + 2, none⟩ = some k0 ∧ w.cell? ⟨g, q + 3, none⟩ = some v0 ∧ w.cell? ⟨g, q + 5 + 2, none⟩ = some k1 ∧ w.cell? ⟨g, q + 5 + 3, none⟩ = some v1 ∧ w.cell? ⟨g, q + 10, none⟩ = some (.int .i64 (es.length : Int))) ∧ IV w k0 (es.map (·.1)) ∧ IV w v0 (es.map (·.2)) ∧ IV w k1 (es.reverse.map (·.1)) ∧ IV w v1 (es.reverse.map (·.2))
theorem baskAt.below {w w' : World} {g q : Nat} {es : Es} {k0 v0 k1 v1 : Value} (h : baskAt w g q es k0 v0 k1 v1) (b : Below w.heap.size w w') : baskAt w' g q es k0 v0 k1 v1 :=
  ⟨⟨bcell b h.1.1, bcell b h.1.2.1, bcell b h.1.2.2.1, bcell b h.1.2.2.2.1, bcell b h.1.2.2.2.2⟩, h.2.1.kb (by decide) (KB.of_below 0 b), h.2.2.1.kb (by decide) (KB.of_below 0 b), h.2.2.2.1.kb (by decide) (KB.of_below 0 b), h.2.2.2.2.kb (by decide) (KB.of_below 0 b)⟩
theorem bask_told {w : World} {v : Value} {es : Es} {lt : Int → Int → Bool} (h : TldV w v (bask.map (tell lt es))) : ∃ g q c k0 v0 k1 v1, v = .slice (some ⟨g, q, none⟩) 3 c ∧ baskAt w g q es k0 v0 k1 v1 := by
  obtain ⟨a, c, h1, h2⟩ := h
  obtain ⟨g, q, k0, v0, s0, e0, a0, -, c0, d0, -, i0, j0, -⟩ := h2 0 _ rfl
  subst e0
  obtain ⟨g1, q1, k1, v1, s1, e1, a1, -, c1, d1, -, i1, j1, -⟩ := h2 1 _ rfl
  simp only [Option.some.injEq, Addr.mk.injEq, and_true] at e1
  obtain ⟨rfl, rfl⟩ := e1
  obtain ⟨g2, q2, k2, v2, s2, e2, a2, -, c2, d2, -, i2, j2, -⟩ := h2 2 _ rfl
  simp only [Option.some.injEq, Addr.mk.injEq, and_true] at e2
  obtain ⟨rfl, rfl⟩ := e2
  exact ⟨g, q, c, k0, v0, k1, v1, h1, ⟨c0, d0, c1, d1, a2⟩, i0, j0, i1, j1⟩

set_option maxRecDepth 100000 in
set_option maxHeartbeats 3200000 in
theorem lback_w (o : Nat) (u : Value) (xs : List Int) (w : World) (hu : RdI w u xs) : Calls Try.prog 10 #[.int .u8 (o : Int), u] w fun e w' => e = .returned (.bool true) ∧ Below w.heap.size w w' := by
  have HU := Lib.hid hu
  obtain ⟨ua, uc, rfl, -⟩ := hu
  obtain ⟨n, hn⟩ : ∃ n, n = xs.length := ⟨_, rfl⟩
  rw [← hn] at HU ⊢
  have HN := Lib.hid hn
  clear hn
  go_enter Try.func10, Try.ntmps10
  by_cases c1 : 2147483647 < n
  · have d1 : decide ((2147483647 : Int) < (n : Int)) = true := by simp; omega
    go_wp2_with fail
    go_ret
    exact ⟨rfl, Below.refl _ _⟩
  have d1 : decide ((2147483647 : Int) < (n : Int)) = false := by simp; omega
  by_cases c0 : 3 < o
  · have d0 : decide ((3 : Int) < (o : Int)) = true := by simp; omega
    go_wp2_with fail
    refine (awake_w w).mono ?_
    rintro e wa ⟨rfl, hba⟩
    have HBA := Lib.hid (hba)
    clear hba
    go_wp2_with fail
    refine bodyPost_ret (results_tmp rfl _ _ _) rfl ?_
    exact ⟨rfl, HBA.out⟩
  have d0 : decide ((3 : Int) < (o : Int)) = false := by simp; omega
  have HKS := Lib.hid (sortKeys_w _ xs 300 w HU.out (by rw [← HN.out]; omega))
  by_cases c2 : KeysOk xs 300
  case neg =>
    have d2 : decide (KeysOk xs 300) = false := decide_eq_false c2
    rw [d2] at HKS
    clear c2 d2
    go_wp2_with fail
    refine HKS.out.mono ?_
    rintro e w1 ⟨rfl, rfl⟩
    go_wp2_with fail
    refine (awake_w w).mono ?_
    rintro e wa ⟨rfl, hba⟩
    have HBA := Lib.hid (hba)
    clear hba
    go_wp2_with fail
    refine bodyPost_ret (results_tmp rfl _ _ _) rfl ?_
    exact ⟨rfl, HBA.out⟩
  have d2 : decide (KeysOk xs 300) = true := decide_eq_true c2
  rw [d2] at HKS
  have hn3 : n ≤ 300 := by rw [HN.out]; exact c2.2
  have HN3 := Lib.hid hn3
  have HB0 : Hid (Below w.heap.size w (w.alloc (.cells baskCells 27))) := (Below.refl _ _).alloc (Nat.le_refl _) _
  have HA := Lib.hid (ask_w o _ xs _ bask (w.alloc (.cells baskCells 27)) (HU.out.below HB0.out) (by rw [← HN.out]; have := HN3.out; omega) (bask_stps w) (by decide) bask_ok)
  unfold baskCells at HA HB0
  clear c0 c1 c2 d2 hn3
  go_wp2_with fail
  refine HKS.out.mono ?_
  rintro e w1 ⟨rfl, rfl⟩
  clear HKS
  go_wp2_with fail
  refine HA.out.mono ?_
  rintro e w2 ⟨t, rfl, ht, hb⟩
  obtain ⟨g, q, c, k0, v0, k1, v1, rfl, hat⟩ := bask_told ht
  have HAT := Lib.hid hat
  have HB2 : Hid (Below w.heap.size w w2) := HB0.out.trans (hb.mono HB0.out.size)
  obtain ⟨F, hF⟩ : ∃ F, F = fill (ltO o) 0 xs [] := ⟨_, rfl⟩
  have hFL : F.length ≤ 300 := by
    rw [hF]
    have := fill_len (ord_ltO o) xs 0 (es := []) List.Pairwise.nil
    have := HN3.out
    rw [HN.out] at this
    simp at *
    omega
  rw [← hF] at HAT
  obtain ⟨m, hm⟩ : ∃ m, m = F.length := ⟨_, rfl⟩
  have HM := Lib.hid hm
  have HML : Hid (m ≤ 300) := by show m ≤ 300; omega
  clear HA ht hb hat hF HB0 HU hFL hm
  go_upto_region 8 with (fail)
  have HR0 : Hid (Below w2.heap.size w2 w2.drew) := (Below.refl _ w2).drew
  have HC0 : Hid (∀ W, Below w2.heap.size w2 W → baskAt W g q F k0 v0 k1 v1) := fun W hW => HAT.out.below hW
  obtain ⟨KR, hKR⟩ : ∃ l, l = F.reverse.map (·.1) := ⟨_, rfl⟩
  obtain ⟨VR, hVR⟩ : ∃ l, l = F.reverse.map (·.2) := ⟨_, rfl⟩
  have hkl : KR.length = m := by rw [hKR, List.length_map, List.length_reverse, HM.out]
  have hvl : VR.length = m := by rw [hVR, List.length_map, List.length_reverse, HM.out]
  have HI : Hid (∀ W, Below w2.heap.size w2 W → IV W k0 KR.reverse ∧ IV W v0 VR.reverse ∧ IV W k1 KR ∧ IV W v1 VR) := by
    intro W hW
    obtain ⟨-, i0, i1, i2, i3⟩ := HAT.out.below hW
    rw [hKR, hVR, ← List.map_reverse, ← List.map_reverse, List.reverse_reverse]
    exact ⟨i0, i1, i2, i3⟩
  have HKL := Lib.hid hkl
  have HVL := Lib.hid hvl
  have HRG : Hid (w2.heap.size ≤ w2.heap.size) := Nat.le_refl _
  clear hKR hVR hkl hvl HAT
  refine region_tree (fun W => Below w2.heap.size w2 W) (.one [0, 1, 2, 3, 5, 6, 7, 8] 4 (.one [] 9 (.one [] 10 (.one [] 11 .stop)))) (by kernel_rfl) (by intro dst v c a w h; cases dst <;> exact h) (by kernel_rfl) HR0.out ?_
  refine t_one ?_
  simp only [opsOf, List.getElem?_toArray, List.getElem?_cons_succ, List.getElem?_cons_zero]
  repeat (refine r_read ?_ (by kernel_rfl) ?_ (fun K hK => ?_); rotate_left 1; (intro W hR; obtain ⟨⟨x0, x1, x2, x3, x4⟩, -⟩ := HC0.out W hR; clear hR; go_simp; try with_reducible rfl); go_simp; refine hK _ ?_; clear hK K)
  refine t_nil1 ?_
  refine r_op rfl (fun K hK => ?_)
  go_simp
  refine (cloneI_w _ _ _ ((HI.out _ HR0.out).2.2.1.rdn) (by rw [HKL.out]; have := HML.out; omega)).mono ?_
  rintro e x1 ⟨r1, rfl, ho1, hb1⟩
  rw [HKL.out] at ho1
  have HO1 := Lib.hid ho1
  have HR1 : Hid (Below w2.heap.size w2 x1) := HR0.out.trans (hb1.mono HR0.out.size)
  have HS1 := Lib.hid hb1
  obtain ⟨ra1, rc1, rfl⟩ := own_len ho1
  clear ho1 hb1
  refine hK _ _ HR1.out ?_
  clear hK K
  refine t_one0 ?_
  refine r_op rfl (fun K hK => ?_)
  go_simp
  refine (cloneI_w _ _ _ ((HI.out _ HR1.out).2.2.2.rdn) (by rw [HVL.out]; have := HML.out; omega)).mono ?_
  rintro e x2 ⟨r2, rfl, ho2, hb2⟩
  rw [HVL.out] at ho2
  have HO2 := Lib.hid ho2
  have HR2 : Hid (Below w2.heap.size w2 x2) := HR1.out.trans (hb2.mono HR1.out.size)
  have HS2 := Lib.hid hb2
  obtain ⟨ra2, rc2, rfl⟩ := own_len ho2
  clear ho2 hb2
  refine hK _ _ HR2.out ?_
  clear hK K
  refine t_one0 ?_
  refine r_op rfl (fun K hK => ?_)
  go_simp
  refine hK _ _ HR2.out ?_
  clear hK K
  refine t_one0 ?_
  refine r_op rfl (fun K hK => ?_)
  go_simp
  refine hK _ _ HR2.out ?_
  clear hK K
  refine t_end ?_
  have HO1' : Hid (x2.ownsRow w2.heap.size 3 1 (.slice ra1 m rc1) m (KR.map (Value.int .i64))) := own_below HO1.out HS2.out
  have HO2' : Hid (x2.ownsRow x1.heap.size 3 1 (.slice ra2 m rc2) m (VR.map (Value.int .i64))) := HO2.out
  have HL1 : Hid (∀ k, (Value.slice ra1 m rc1).ownBlock = some k → w2.heap.size ≤ k ∧ k < x1.heap.size) := fun k hk => HO1.out.lt k hk
  have HL2 : Hid (∀ k, (Value.slice ra2 m rc2).ownBlock = some k → x1.heap.size ≤ k ∧ w2.heap.size ≤ k) := fun k hk => ⟨(HO2.out.lt k hk).1, Nat.le_trans HR1.out.size (HO2.out.lt k hk).1⟩
  clear HO1 HO2 HS1 HS2 HR0
  have HV1 := Lib.hid (reverse_w w2.heap.size (.slice ra1 m rc1) KR x2 (by rw [HKL.out]; exact HO1'.out) (by rw [HKL.out]; have := HML.out; omega))
  rw [HKL.out] at HV1
  go_wp2_with fail
  refine HV1.out.mono ?_
  rintro e x3 ⟨rfl, ho3, hb3⟩
  have HO3 := Lib.hid ho3
  have HR3 : Hid (Below w2.heap.size w2 x3) := HR2.out.trans (hb3.below HR2.out.size fun k hk => (HL1.out k hk).1)
  have HO4 : Hid (x3.ownsRow x1.heap.size 3 1 (.slice ra2 m rc2) m (VR.map (Value.int .i64))) := own_but HO2'.out hb3 fun k hk e => by have h1 := HL1.out k e; have h2 := HL2.out k hk; omega
  clear ho3 hb3 HV1 HO1' HO2'
  have HV2 := Lib.hid (reverse_w x1.heap.size (.slice ra2 m rc2) VR x3 (by rw [HVL.out]; exact HO4.out) (by rw [HVL.out]; have := HML.out; omega))
  rw [HVL.out] at HV2
  go_wp2_with fail
  refine HV2.out.mono ?_
  rintro e x4 ⟨rfl, ho5, hb5⟩
  have HR4 : Hid (Below w2.heap.size w2 x4) := HR3.out.trans (hb5.below HR3.out.size fun k hk => (HL2.out k hk).2)
  have HO5 := Lib.hid ho5
  have HO6 : Hid (x4.ownsRow w2.heap.size 3 1 (.slice ra1 m rc1) m (KR.reverse.map (Value.int .i64))) := own_but HO3.out hb5 fun k hk e => by have h1 := HL1.out k hk; have h2 := HL2.out k e; omega
  obtain ⟨i0, i1, -, -⟩ := HI.out _ HR4.out
  have HE1 := Lib.hid (same_c (w := x4) i0.rdi (IV.of_own (by rw [List.length_reverse, HKL.out]) rfl HO6.out).rdi (by rw [List.length_reverse, HKL.out]; have := HML.out; omega))
  have HE2 := Lib.hid (same_c (w := x4) i1.rdi (IV.of_own (by rw [List.length_reverse, HVL.out]) rfl HO5.out).rdi (by rw [List.length_reverse, HVL.out]; have := HML.out; omega))
  have HCC : Hid (∀ W, Below x4.heap.size x4 W → w2.heap.size ≤ w2.heap.size ∧ baskAt W g q F k0 v0 k1 v1) := fun W hW => ⟨Nat.le_refl _, HC0.out _ (HR4.out.trans (hW.mono HR4.out.size))⟩
  clear ho5 hb5 HV2 HO3 HO4 HO5 HO6 i0 i1 HI HL1 HL2
  obtain ⟨⟨y0, y1, -, -, y4⟩, -⟩ := (HCC.out _ (Below.refl _ _)).2
  rw [← HM.out] at y4
  go_wp2_with fail
  refine (HE1.out _ (Below.refl _ _)).mono ?_
  rintro e x5 ⟨rfl, hb6⟩
  have HR5 : Hid (Below x4.heap.size x4 x5) := hb6
  clear y0 y1 y4 hb6
  obtain ⟨⟨y0, y1, -, -, y4⟩, -⟩ := (HCC.out _ HR5.out).2
  rw [← HM.out] at y4
  go_wp2_with fail
  refine (HE2.out _ HR5.out).mono ?_
  rintro e x6 ⟨rfl, hb7⟩
  have HR6 : Hid (Below x4.heap.size x4 x6) := HR5.out.trans (hb7.mono HR5.out.size)
  clear y0 y1 y4 hb7
  obtain ⟨⟨y0, y1, -, -, y4⟩, -⟩ := (HCC.out _ HR6.out).2
  rw [← HM.out] at y4
  have hd : ((m : Int) == (m : Int)) = true := by simp
  go_wp2_with fail
  refine (awake_w x6).mono ?_
  rintro e x7 ⟨rfl, hb8⟩
  have HR7 : Hid (Below w.heap.size w x7) := by
    have h1 := HB2.out.trans (HR4.out.mono HB2.out.size)
    have h2 := h1.trans (HR6.out.mono h1.size)
    exact h2.trans (hb8.mono h2.size)
  clear y0 y1 y4 hb8
  go_wp2_with fail
  refine bodyPost_ret (results_tmp rfl _ _ _) rfl ?_
  exact ⟨rfl, HR7.out⟩
theorem lback_c (c : Int) (hc : 0 ≤ c) (u : Value) (xs : List Int) (w : World) (hu : RdI w u xs) : Calls Try.prog 10 #[.int .u8 c, u] w fun e w' => e = .returned (.bool true) ∧ Below w.heap.size w w' := by
  obtain ⟨o, rfl⟩ : ∃ o : Nat, c = (o : Int) := ⟨c.toNat, by omega⟩
  exact lback_w o u xs w hu
end Go.Proofs.Ytefigjdebakccaa
