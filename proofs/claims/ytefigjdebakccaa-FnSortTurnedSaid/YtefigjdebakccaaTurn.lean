/- The walk over the law FnSortTurned. -/
import Derived.Test.YtefigjdebakccaaAsk
namespace Go.Proofs.Ytefigjdebakccaa
open Go.RowKit

def ask2 : List Stp := [⟨4, 0, 0, 0, []⟩, ⟨5, 0, 0, 0, []⟩]
def ask2Cells : Array Value := #[.int .u8 4, .int .i64 0, .int .i64 0, .int .i64 0, .slice none 0 0, .int .u8 5, .int .i64 0, .int .i64 0, .int .i64 0, .slice none 0 0]
theorem ask2_stps (w : World) : StpsV (w.alloc (.cells ask2Cells 27)) (.slice (some ⟨w.heap.size, 0, none⟩) 2 2) ask2 := by
  have h := heap_alloc_last w (.cells ask2Cells 27)
  refine ⟨_, 2, rfl, fun i s hs => ⟨w.heap.size, 0, .slice none 0 0, rfl, ?_⟩⟩
  have key : ∀ n : Nat, s.moves = [] → ask2Cells[n * 5]? = some (.int .u8 (s.op : Int)) → ask2Cells[n * 5 + 1]? = some (.int .i64 (s.on : Int)) → ask2Cells[n * 5 + 2]? = some (.int .i64 s.key) → ask2Cells[n * 5 + 3]? = some (.int .i64 s.val) → ask2Cells[n * 5 + 4]? = some (.slice none 0 0) →
      (w.alloc (.cells ask2Cells 27)).cell? ⟨w.heap.size, 0 + n * 5, none⟩ = some (.int .u8 (s.op : Int)) ∧ (w.alloc (.cells ask2Cells 27)).cell? ⟨w.heap.size, 0 + n * 5 + 1, none⟩ = some (.int .i64 (s.on : Int)) ∧ (w.alloc (.cells ask2Cells 27)).cell? ⟨w.heap.size, 0 + n * 5 + 2, none⟩ = some (.int .i64 s.key) ∧
      (w.alloc (.cells ask2Cells 27)).cell? ⟨w.heap.size, 0 + n * 5 + 3, none⟩ = some (.int .i64 s.val) ∧ (w.alloc (.cells ask2Cells 27)).cell? ⟨w.heap.size, 0 + n * 5 + 4, none⟩ = some (.slice none 0 0) ∧ MovesV (w.alloc (.cells ask2Cells 27)) (.slice none 0 0) s.moves := by
    intro n h0 h1 h2 h3 h4 h5
    rw [Nat.zero_add]
    exact ⟨cell_at h h1, cell_at h h2, cell_at h h3, cell_at h h4, cell_at h h5, by rw [h0]; exact movesV_nil _⟩
  match i, hs with
  | 0, hs => cases hs; exact key 0 rfl rfl rfl rfl rfl rfl
  | 1, hs => cases hs; exact key 1 rfl rfl rfl rfl rfl rfl
  | i + 2, hs => simp [ask2] at hs
theorem ask2_ok : ∀ s ∈ ask2, 2 ≤ s.op ∧ s.op ≤ 6 ∧ (∀ m ∈ s.moves, m.1 ≤ 5) ∧ s.moves.length ≤ 100000 := by
  intro s hs
  simp only [ask2, List.mem_cons, List.not_mem_nil, or_false] at hs
  rcases hs with rfl | rfl <;> simp
/-- the keys and the values that two asks told: forth and back -/
def Two (w : World) (g q : Nat) (k0 v0 k1 v1 : Value) : Prop :=
  w.cell? ⟨g, q + 2, none⟩ = some k0 ∧ w.cell? ⟨g, q + 3, none⟩ = some v0 ∧ w.cell? ⟨g, q + 5 + 2, none⟩ = some k1 ∧ w.cell? ⟨g, q + 5 + 3, none⟩ = some v1
theorem Two.below {w w' : World} {g q : Nat} {k0 v0 k1 v1 : Value} (h : Two w g q k0 v0 k1 v1) (b : Below w.heap.size w w') : Two w' g q k0 v0 k1 v1 :=
  ⟨bcell b h.1, bcell b h.2.1, bcell b h.2.2.1, bcell b h.2.2.2⟩
theorem tld_two {w : World} {v : Value} {es : Es} {lt : Int → Int → Bool} (h : TldV w v (ask2.map (tell lt es))) : ∃ g q c k0 v0 k1 v1, v = .slice (some ⟨g, q, none⟩) 2 c ∧ Two w g q k0 v0 k1 v1 ∧ IV w k0 (es.map (·.1)) ∧ IV w v0 (es.map (·.2)) ∧ IV w k1 (es.reverse.map (·.1)) ∧ IV w v1 (es.reverse.map (·.2)) := by
  obtain ⟨a, c, h1, h2⟩ := h
  obtain ⟨g, q, k0, v0, s0, e1, -, -, c1, c2, -, i1, i2, -⟩ := h2 0 _ rfl
  obtain ⟨g', q', k1, v1, s1, e2, -, -, d1, d2, -, j1, j2, -⟩ := h2 1 _ rfl
  subst e1
  simp only [Option.some.injEq, Addr.mk.injEq, and_true] at e2
  obtain ⟨rfl, rfl⟩ := e2
  exact ⟨g, q, c, k0, v0, k1, v1, h1, ⟨c1, c2, d1, d2⟩, i1, i2, j1, j2⟩

set_option maxRecDepth 100000 in
set_option maxHeartbeats 3200000 in
theorem turned_w (u : Value) (xs : List Int) (w : World) (hu : RdI w u xs) : Calls Try.prog 3 #[u] w fun e w' => e = .returned (.bool true) ∧ Below w.heap.size w w' := by
  have HU := Lib.hid hu
  obtain ⟨ua, uc, rfl, -⟩ := hu
  obtain ⟨n, hn⟩ : ∃ n, n = xs.length := ⟨_, rfl⟩
  rw [← hn] at HU ⊢
  have HN := Lib.hid hn
  clear hn
  go_enter Try.func3, Try.ntmps3
  by_cases c1 : 2147483647 < n
  · have d1 : decide ((2147483647 : Int) < (n : Int)) = true := by simp; omega
    go_wp2_with fail
    go_ret
    exact ⟨rfl, Below.refl _ _⟩
  have d1 : decide ((2147483647 : Int) < (n : Int)) = false := by simp; omega
  have HKS := Lib.hid (sortKeys_w _ xs 300 w HU.out (by rw [← HN.out]; omega))
  by_cases c2 : KeysOk xs 300
  case neg =>
    have d2 : decide (KeysOk xs 300) = false := decide_eq_false c2
    rw [d2] at HKS
    clear c2 d2
    go_wp2_with fail
    refine HKS.out.mono ?_
    rintro e w1 ⟨rfl, rfl⟩
    go_wp2_with fail
    refine (awake_w w).mono ?_
    rintro e w1 ⟨rfl, hb⟩
    have HB := Lib.hid hb
    clear hb
    go_wp2_with fail
    refine bodyPost_ret (results_tmp rfl _ _ _) rfl ?_
    exact ⟨rfl, HB.out⟩
  have d2 : decide (KeysOk xs 300) = true := decide_eq_true c2
  rw [d2] at HKS
  have hn3 : n ≤ 300 := by rw [HN.out]; exact c2.2
  have HN3 := Lib.hid hn3
  clear c1 c2 d2 hn3
  go_wp2_with fail
  refine HKS.out.mono ?_
  rintro e w1 ⟨rfl, rfl⟩
  clear HKS
  go_upto_region 6 with (fail)
  have HS := Lib.hid (ask2_stps w)
  have HB0 : Hid (Below w.heap.size w (w.alloc (.cells ask2Cells 27))) := (Below.refl _ _).alloc (Nat.le_refl _) _
  unfold ask2Cells at HS HB0
  generalize w.alloc (.cells #[.int .u8 4, .int .i64 0, .int .i64 0, .int .i64 0, .slice none 0 0, .int .u8 5, .int .i64 0, .int .i64 0, .int .i64 0, .slice none 0 0] 27) = X at HS HB0 ⊢
  obtain ⟨bs, hbs⟩ : ∃ b, b = w.heap.size := ⟨_, rfl⟩
  rw [← hbs] at HS ⊢
  clear hbs
  have HA0 := Lib.hid (ask_c 0 0 rfl _ xs _ ask2 X (HU.out.below HB0.out) (by rw [← HN.out]; have := HN3.out; omega) (HS.out) (by decide) ask2_ok)
  go_wp2_with fail
  refine HA0.out.mono ?_
  rintro e w2 ⟨t0, rfl, ht0, hb0⟩
  obtain ⟨g0, q0, c0, ka0, va0, kb0, vb0, rfl, tw0, ika0, iva0, ikb0, ivb0⟩ := tld_two ht0
  have HC1 : Hid (Below X.heap.size X w2) := hb0
  have HB1 : Hid (Below w.heap.size w w2) := HB0.out.trans (hb0.mono HB0.out.size)
  have TW0 := Lib.hid (tw0)
  have HH0 := Lib.hid hb0
  have IK0 := Lib.hid (And.intro ika0 (And.intro iva0 (And.intro ikb0 ivb0)))
  clear HA0 ht0 hb0 tw0 ika0 iva0 ikb0 ivb0
  have HA1 := Lib.hid (ask_c 1 1 rfl _ xs _ ask2 w2 (HU.out.below HB1.out) (by rw [← HN.out]; have := HN3.out; omega) (HS.out.below (HC1.out)) (by decide) ask2_ok)
  go_wp2_with fail
  refine HA1.out.mono ?_
  rintro e w3 ⟨t1, rfl, ht1, hb1⟩
  obtain ⟨g1, q1, c1, ka1, va1, kb1, vb1, rfl, tw1, ika1, iva1, ikb1, ivb1⟩ := tld_two ht1
  have HC2 : Hid (Below X.heap.size X w3) := HC1.out.trans (hb1.mono HC1.out.size)
  have HB2 : Hid (Below w.heap.size w w3) := HB1.out.trans (hb1.mono HB1.out.size)
  have TW1 := Lib.hid (tw1)
  have HH1 := Lib.hid hb1
  have IK1 := Lib.hid (And.intro ika1 (And.intro iva1 (And.intro ikb1 ivb1)))
  clear HA1 ht1 hb1 tw1 ika1 iva1 ikb1 ivb1
  have HA2 := Lib.hid (ask_c 2 2 rfl _ xs _ ask2 w3 (HU.out.below HB2.out) (by rw [← HN.out]; have := HN3.out; omega) (HS.out.below (HC2.out)) (by decide) ask2_ok)
  go_wp2_with fail
  refine HA2.out.mono ?_
  rintro e w4 ⟨t2, rfl, ht2, hb2⟩
  obtain ⟨g2, q2, c2, ka2, va2, kb2, vb2, rfl, tw2, ika2, iva2, ikb2, ivb2⟩ := tld_two ht2
  have HC3 : Hid (Below X.heap.size X w4) := HC2.out.trans (hb2.mono HC2.out.size)
  have HB3 : Hid (Below w.heap.size w w4) := HB2.out.trans (hb2.mono HB2.out.size)
  have TW2 := Lib.hid (tw2)
  have HH2 := Lib.hid hb2
  have IK2 := Lib.hid (And.intro ika2 (And.intro iva2 (And.intro ikb2 ivb2)))
  clear HA2 ht2 hb2 tw2 ika2 iva2 ikb2 ivb2
  go_upto_region 11 with (fail)
  have hb34 := HH2
  have hb24 : Hid (Below w2.heap.size w2 w4) := HH1.out.trans (HH2.out.mono HH1.out.size)
  clear HH0 HH1 HH2
  obtain ⟨F, hF⟩ : ∃ F, F = fill (ltO 1) 0 xs [] := ⟨_, rfl⟩
  have hFL : F.length ≤ 300 := by
    rw [hF]
    have := fill_len (ord_ltO 1) xs 0 (es := []) List.Pairwise.nil
    have := HN3.out
    rw [HN.out] at this
    simp at *
    omega
  rw [ltO_zero, ← hF] at IK0
  rw [← hF] at IK1
  rw [fill_falling, ← hF, List.reverse_reverse] at IK2
  have HE : Hid (∀ W, Below w4.heap.size w4 W → (Calls Try.prog 18 #[ka1, kb2] W fun e w' => e = .returned (.bool true) ∧ Below W.heap.size W w') ∧ (Calls Try.prog 18 #[va1, vb2] W fun e w' => e = .returned (.bool true) ∧ Below W.heap.size W w') ∧
      (Calls Try.prog 18 #[kb1, ka2] W fun e w' => e = .returned (.bool true) ∧ Below W.heap.size W w') ∧ (Calls Try.prog 18 #[ka0, ka1] W fun e w' => e = .returned (.bool true) ∧ Below W.heap.size W w') ∧ (Calls Try.prog 18 #[vb0, vb1] W fun e w' => e = .returned (.bool true) ∧ Below W.heap.size W w')) := by
    intro W hW
    obtain ⟨a1, a2, a3, a4⟩ := IK0.out
    obtain ⟨b1, b2, b3, b4⟩ := IK1.out
    obtain ⟨c1, c2, c3, c4⟩ := IK2.out
    have r0 : Below w2.heap.size w2 w4 := hb24.out
    have r1 : Below w3.heap.size w3 w4 := hb34.out
    refine ⟨same_c (b1.rdi.below r1) c3.rdi ?_ W hW, same_c (b2.rdi.below r1) c4.rdi ?_ W hW, same_c (b3.rdi.below r1) c1.rdi ?_ W hW, same_c (a1.rdi.below r0) (b1.rdi.below r1) ?_ W hW, same_c (a4.rdi.below r0) (b4.rdi.below r1) ?_ W hW⟩ <;> simp <;> omega
  have HC0 : Hid (∀ W, Below w4.heap.size w4 W → Two W g0 q0 ka0 va0 kb0 vb0 ∧ Two W g1 q1 ka1 va1 kb1 vb1 ∧ Two W g2 q2 ka2 va2 kb2 vb2) := fun W hW => ⟨(TW0.out.below hb24.out).below hW, (TW1.out.below hb34.out).below hW, TW2.out.below hW⟩
  have HSL : Hid (IsSl ka0 ∧ IsSl va0 ∧ IsSl kb0 ∧ IsSl vb0 ∧ IsSl ka1 ∧ IsSl va1 ∧ IsSl kb1 ∧ IsSl vb1 ∧ IsSl ka2 ∧ IsSl va2 ∧ IsSl kb2 ∧ IsSl vb2) := ⟨IK0.out.1.sl, IK0.out.2.1.sl, IK0.out.2.2.1.sl, IK0.out.2.2.2.sl, IK1.out.1.sl, IK1.out.2.1.sl, IK1.out.2.2.1.sl, IK1.out.2.2.2.sl, IK2.out.1.sl, IK2.out.2.1.sl, IK2.out.2.2.1.sl, IK2.out.2.2.2.sl⟩
  have HR0 : Hid (Below w4.heap.size w4 w4.drew) := (Below.refl _ w4).drew
  have HR0' : Hid (Below w.heap.size w w4.drew) := HB3.out.drew
  clear hF hFL IK0 IK1 IK2 TW0 TW1 TW2 HC1 HC2 HC3 HB0 HB1 HB2 hb24 hb34 HS HU
  refine region_segsR (fun W => Below w4.heap.size w4 W) [([0, 1, 2, 3, 4, 5, 6, 7], [8]), ([9, 10, 11, 12, 13, 14, 15, 16, 17], [18]), ([19, 20, 21, 22, 23, 24, 25, 26, 27, 28], [29]), ([30, 31, 32, 33, 34, 35, 36, 37, 38, 39], [40]), ([41, 42, 43, 44, 45, 46, 47, 48, 49, 50], [51]), ([52, 53], [54]), ([55], [56])] (by kernel_rfl) (by intro dst v c a w h; cases dst <;> exact h) (by kernel_rfl) HR0.out ?_
  refine r_segs ?_
  simp only [opsOf, List.getElem?_toArray, List.getElem?_cons_succ, List.getElem?_cons_zero]
  repeat (refine r_read ?_ (by kernel_rfl) ?_ (fun K hK => ?_); rotate_left 1; (intro W hR; obtain ⟨⟨x0, x1, x2, x3⟩, ⟨y0, y1, y2, y3⟩, ⟨z0, z1, z2, z3⟩⟩ := HC0.out W hR; clear hR; go_simp; try with_reducible rfl); go_simp; refine hK _ ?_; clear hK K)
  refine r_nil1 ?_
  refine r_op rfl (fun K hK => ?_)
  go_simp
  refine ((HE.out _ HR0.out).1).mono ?_
  rintro e v1 ⟨rfl, hb1⟩
  have HR1 : Hid (Below w4.heap.size w4 v1) := HR0.out.trans (hb1.mono HR0.out.size)
  clear hb1
  refine hK _ _ HR1.out ?_
  clear hK K
  refine r_segs ?_
  simp only [opsOf, List.getElem?_toArray, List.getElem?_cons_succ, List.getElem?_cons_zero]
  repeat (refine r_read ?_ (by kernel_rfl) ?_ (fun K hK => ?_); rotate_left 1; (intro W hR; obtain ⟨⟨x0, x1, x2, x3⟩, ⟨y0, y1, y2, y3⟩, ⟨z0, z1, z2, z3⟩⟩ := HC0.out W hR; clear hR; go_simp; try with_reducible rfl); go_simp; refine hK _ ?_; clear hK K)
  refine r_nil1 ?_
  refine r_op rfl (fun K hK => ?_)
  go_simp
  refine ((HE.out _ HR1.out).2.1).mono ?_
  rintro e v2 ⟨rfl, hb2⟩
  have HR2 : Hid (Below w4.heap.size w4 v2) := HR1.out.trans (hb2.mono HR1.out.size)
  clear hb2
  refine hK _ _ HR2.out ?_
  clear hK K
  refine r_segs ?_
  simp only [opsOf, List.getElem?_toArray, List.getElem?_cons_succ, List.getElem?_cons_zero]
  repeat (refine r_read ?_ (by kernel_rfl) ?_ (fun K hK => ?_); rotate_left 1; (intro W hR; obtain ⟨⟨x0, x1, x2, x3⟩, ⟨y0, y1, y2, y3⟩, ⟨z0, z1, z2, z3⟩⟩ := HC0.out W hR; clear hR; go_simp; try with_reducible rfl); go_simp; refine hK _ ?_; clear hK K)
  refine r_nil1 ?_
  refine r_op rfl (fun K hK => ?_)
  go_simp
  refine ((HE.out _ HR2.out).2.2.1).mono ?_
  rintro e v3 ⟨rfl, hb3⟩
  have HR3 : Hid (Below w4.heap.size w4 v3) := HR2.out.trans (hb3.mono HR2.out.size)
  clear hb3
  refine hK _ _ HR3.out ?_
  clear hK K
  refine r_segs ?_
  simp only [opsOf, List.getElem?_toArray, List.getElem?_cons_succ, List.getElem?_cons_zero]
  repeat (refine r_read ?_ (by kernel_rfl) ?_ (fun K hK => ?_); rotate_left 1; (intro W hR; obtain ⟨⟨x0, x1, x2, x3⟩, ⟨y0, y1, y2, y3⟩, ⟨z0, z1, z2, z3⟩⟩ := HC0.out W hR; clear hR; go_simp; try with_reducible rfl); go_simp; refine hK _ ?_; clear hK K)
  refine r_nil1 ?_
  refine r_op rfl (fun K hK => ?_)
  go_simp
  refine ((HE.out _ HR3.out).2.2.2.1).mono ?_
  rintro e v4 ⟨rfl, hb4⟩
  have HR4 : Hid (Below w4.heap.size w4 v4) := HR3.out.trans (hb4.mono HR3.out.size)
  clear hb4
  refine hK _ _ HR4.out ?_
  clear hK K
  refine r_segs ?_
  simp only [opsOf, List.getElem?_toArray, List.getElem?_cons_succ, List.getElem?_cons_zero]
  repeat (refine r_read ?_ (by kernel_rfl) ?_ (fun K hK => ?_); rotate_left 1; (intro W hR; obtain ⟨⟨x0, x1, x2, x3⟩, ⟨y0, y1, y2, y3⟩, ⟨z0, z1, z2, z3⟩⟩ := HC0.out W hR; clear hR; go_simp; try with_reducible rfl); go_simp; refine hK _ ?_; clear hK K)
  refine r_nil1 ?_
  refine r_op rfl (fun K hK => ?_)
  go_simp
  refine ((HE.out _ HR4.out).2.2.2.2).mono ?_
  rintro e v5 ⟨rfl, hb5⟩
  have HR5 : Hid (Below w4.heap.size w4 v5) := HR4.out.trans (hb5.mono HR4.out.size)
  clear hb5
  refine hK _ _ HR5.out ?_
  clear hK K
  refine r_segs ?_
  simp only [opsOf, List.getElem?_toArray, List.getElem?_cons_succ, List.getElem?_cons_zero]
  repeat (refine r_read ?_ (by kernel_rfl) ?_ (fun K hK => ?_); rotate_left 1; (intro W hR; obtain ⟨⟨x0, x1, x2, x3⟩, ⟨y0, y1, y2, y3⟩, ⟨z0, z1, z2, z3⟩⟩ := HC0.out W hR; clear hR; go_simp; try with_reducible rfl); go_simp; refine hK _ ?_; clear hK K)
  refine r_nil1 ?_
  refine r_op rfl (fun K hK => ?_)
  go_simp
  refine (awake_w _).mono ?_
  rintro e v6 ⟨rfl, hb6⟩
  have HR6 : Hid (Below w4.heap.size w4 v6) := HR5.out.trans (hb6.mono HR5.out.size)
  clear hb6
  refine hK _ _ HR6.out ?_
  clear hK K
  refine r_segs ?_
  simp only [opsOf, List.getElem?_toArray, List.getElem?_cons_succ, List.getElem?_cons_zero]
  repeat (refine r_read ?_ (by kernel_rfl) ?_ (fun K hK => ?_); rotate_left 1; (intro W hR; obtain ⟨⟨x0, x1, x2, x3⟩, ⟨y0, y1, y2, y3⟩, ⟨z0, z1, z2, z3⟩⟩ := HC0.out W hR; clear hR; go_simp; try with_reducible rfl); go_simp; refine hK _ ?_; clear hK K)
  refine r_nil1 ?_
  refine r_op rfl (fun K hK => ?_)
  go_simp
  refine hK _ _ HR6.out ?_
  clear hK K
  refine r_end ?_
  have HBE : Hid (Below w.heap.size w v6) := HB3.out.trans (HR6.out.mono HB3.out.size)
  clear HC0 HE HSL
  go_wp2_with fail
  refine bodyPost_ret (results_tmp rfl _ _ _) rfl ?_
  exact ⟨rfl, HBE.out⟩
end Go.Proofs.Ytefigjdebakccaa
