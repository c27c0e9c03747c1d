/- ListBuild's walk. Conditions of this file: none. -/
import Derived.Test.YtnahipfdnadccaaBldC
namespace Go.Proofs.Ytnahipfdnadccaa
open Go.RowKit

theorem bnd_b (K : Nat) {a L j s M : Nat} (h : L + K * (s + 1) < M) (ha : a = L) (hj : j + 1 ≤ s) : a + K * j + K < M := by
  subst ha
  have h1 : K * (j + 1) ≤ K * s := Nat.mul_le_mul_left _ hj
  rw [Nat.mul_add, Nat.mul_one] at h1
  have h2 : K * (s + 1) = K * s + K := Nat.mul_succ _ _
  omega
theorem mul_step (K a j : Nat) : a + K * (j + 1) = a + K * j + K := by rw [Nat.mul_succ, Nat.add_assoc]
theorem bnd_c (K : Nat) {a L N s M : Nat} (h : L + K * (s + 1) < M) (ha : a = L) (hN : N = a + K * s) : N < M := by
  subst ha
  subst hN
  have h2 : K * (s + 1) = K * s + K := Nat.mul_succ _ _
  omega

set_option maxRecDepth 100000 in
set_option maxHeartbeats 6400000 in
theorem build_w (w : World) (v0 sv : Value) (xs0 : List Int) (steps : List Stp) (hu : SlN w v0 (xs0.map (Value.int .i64))) (hs : StpW w sv steps) (hk : ∀ (i : Nat) (s : Stp), steps[i]? = some s → s.k ≤ 5 ∧ (4 ≤ s.k → 0 ≤ s.I ∧ s.I ≤ 100000))
    (hn : xs0.length + 100000 * (steps.length + 1) < 33554431) (hG : Glob w) :
    Calls Try.prog 28 #[v0, sv] w fun e w' => ∃ a b c d, e = .returned (.tuple #[a, b, c, d]) ∧ Below w.heap.size w w' ∧ SlV w' a ((bldRun steps (xs0, [])).1.map (Value.int .i64)) ∧ SlV w' b ((bldRun steps (xs0, [])).1.map (Value.int .i64)) ∧
      SlV w' c ((bldRun steps (xs0, [])).1.map (Value.int .i64)) ∧ SlV w' d ((bldRun steps (xs0, [])).2.map Value.bool) := by
  obtain ⟨i4, hi, hz0, hz1, hz2⟩ := info_parts info4
  have HI4 := Lib.hid (And.intro hi (And.intro hz0 (And.intro hz1 hz2)))
  clear hi hz0 hz1 hz2
  obtain ⟨ua, uc, rfl, -, hc⟩ := hu
  rw [List.length_map]
  have HU := Lib.hid hc
  have hsh : ∃ sa sc, sv = .slice sa steps.length sc := by
    rcases hs with ⟨h, h0⟩ | ⟨_, _, _, h, _⟩
    · exact ⟨none, 0, by rw [h, h0]; rfl⟩
    · exact ⟨_, _, h⟩
  obtain ⟨sa, sc, rfl⟩ := hsh
  have HS := Lib.hid hs
  have HK := Lib.hid hk
  have HN := Lib.hid hn
  have HG := Lib.hid hG
  have HW0 : Hid (0 < w.heap.size) := lt_of_block hG.choose_spec.1
  obtain ⟨L0, hL0⟩ : ∃ L0, L0 = xs0.length := ⟨_, rfl⟩
  rw [← hL0]
  have HL0 := Lib.hid hL0
  have hLb : L0 < 33554431 := by omega
  have hSb : steps.length < 336 := by omega
  clear hc hs hk hn hG hL0
  go_enter Try.func28, Try.ntmps28
  go_wp2_with fail
  refine (nlb_w w HW0.out).mono ?_
  rintro e W ⟨bb, lb, rfl, hb0, hbb, hB⟩
  go_upto_region 2 with (fail)
  have hA : Below W.heap.size W (W.alloc (.cells #[.pointer (some ⟨bb, 0, none⟩)] 86)) := (Below.refl _ W).alloc (Nat.le_refl _) _
  have hv := heap_alloc_last W (.cells #[.pointer (some ⟨bb, 0, none⟩)] 86)
  have hB1 := hB.gap (but_alloc W (.cells #[.pointer (some ⟨bb, 0, none⟩)] 86) _) (Stay.of_below hA)
  have hgv : ¬ gap (fun x => w.heap.size ≤ x ∧ x ≠ bb) W.heap.size (W.alloc (.cells #[.pointer (some ⟨bb, 0, none⟩)] 86)).heap.size W.heap.size := fun h => h.elim (fun h => by have := h.2; omega) fun h => by have h' : W.heap.size + 1 ≤ W.heap.size := by { simpa using h }; omega
  have hgl : ∀ x, gap (fun x => w.heap.size ≤ x ∧ x ≠ bb) W.heap.size (W.alloc (.cells #[.pointer (some ⟨bb, 0, none⟩)] 86)).heap.size x → w.heap.size ≤ x := fun x h => h.elim (fun h => h.1.1) fun h => Nat.le_trans (Nat.le_trans hb0.size hA.size) h
  have hb1 : Below w.heap.size w (W.alloc (.cells #[.pointer (some ⟨bb, 0, none⟩)] 86)) := hb0.trans (hA.mono hb0.size)
  generalize gap (fun x => w.heap.size ≤ x ∧ x ≠ bb) W.heap.size (W.alloc (.cells #[.pointer (some ⟨bb, 0, none⟩)] 86)).heap.size = G at hB1 hgv hgl
  generalize W.heap.size = vb at hv hgv ⊢
  generalize W.alloc (.cells #[.pointer (some ⟨bb, 0, none⟩)] 86) = W1 at hv hB1 hb1 ⊢
  have HV : Hid (Var W1 vb bb) := hv
  have HB1 := Lib.hid hB1
  have HGV := Lib.hid hgv
  have HGL := Lib.hid hgl
  have HB0 := Lib.hid hb1
  have HBB := Lib.hid hbb
  clear hA hv hB1 hgv hgl hb1 hb0 hbb hB W
  go_wp2_with fail
  go_loopg [20] L0 (fun q v20 wr => ∃ j : Nat, j + q = L0 ∧ v20 = .int .i64 (j : Int) ∧ Bld G wr bb lb j (xs0.take j) ∧ Var wr vb bb ∧ Below w.heap.size w wr)
  case atStart => exact ⟨0, by omega, rfl, by simpa using HB1.out, HV.out, HB0.out⟩
  case round =>
    clear HV HB1 HB0 W1
    obtain ⟨j, hjk, rfl, hB, hv, hb⟩ := hrel
    have HB := Lib.hid hB
    have HV := Lib.hid hv
    have HBW := Lib.hid hb
    have hvne : vb ≠ bb := ne_of_ty hv hB.blk (by decide)
    have HNE := Lib.hid hvne
    have hw1 : IntKind.i64.wrap ((j : Int) + 1) = ((j + 1 : Nat) : Int) := by rw [IntKind.wrap_i64]; omega
    by_cases hlt : j < L0
    · have h1 : decide ((j : Int) < (L0 : Int)) = true := by simp; omega
      obtain ⟨y, hy⟩ : ∃ y, xs0[j]? = some y := ⟨xs0[j]'(by have := HL0.out; omega), List.getElem?_eq_getElem _⟩
      obtain ⟨g, o, rfl, hc⟩ := HU.out j (.int .i64 y) (by rw [List.getElem?_map, hy]; rfl)
      have c0 : wr.cell? ⟨g, o + j, none⟩ = some (.int .i64 y) := (hb.cell (World.block_lt_of_cell? w _ hc)).trans hc
      have v0 := cell_at (j := 0) hv rfl
      have HC := Lib.hid (bld_append_w y hB (append_gsmut y hB.lst hB.new (by omega)))
      have HY := Lib.hid hy
      clear hc hy hB hv hb hvne
      go_wp2_with fail
      refine HC.out.mono ?_
      rintro e w2 ⟨rfl, k1, k2⟩
      have HK1 := Lib.hid k1
      have HV2 : Hid (Var w2 vb bb) := k2.at HV.out fun h => h.elim HGV.out HNE.out
      have HB2 : Hid (Below w.heap.size w w2) := HBW.out.trans (k2.below HBW.out.size fun x h => by rcases h with h | h; exact HGL.out x h; rw [h]; exact HBB.out)
      clear k1 k2 HC v0 c0
      go_wp2_with fail
      go_roundg (gk - 1)
      case measure => omega
      case rel =>
        refine ⟨j + 1, by omega, rfl, ?_, HV2.out, HB2.out⟩
        rw [List.take_add_one, HY.out]
        exact HK1.out
    · have h1 : decide ((j : Int) < (L0 : Int)) = false := by simp; omega
      obtain rfl : L0 = j := by omega
      have HB3 : Hid (Bld G wr bb lb L0 xs0) := by
        have h := hB
        rw [show xs0.take L0 = xs0 by rw [HL0.out, List.take_length]] at h
        exact h
      have hGr : Hid (Glob wr) := HG.out.stay (Stay.of_below hb)
      clear hB hv hb hvne HB hlt
      go_wp2_with fail
      clear h1
      go_loopg [7, 30] steps.length (fun q v7 v30 wr => ∃ (pv : Value) (j : Nat) (G : Nat → Prop), pv = v7 ∧ j + q = steps.length ∧ v30 = .int .i64 (j : Int) ∧ Bld G wr bb lb (L0 + 100000 * j) (bldRun (steps.take j) (xs0, [])).1 ∧
        wr.ownsRow w.heap.size 4 1 pv j ((bldRun (steps.take j) (xs0, [])).2.map Value.bool) ∧ (∀ k, pv.ownBlock = some k → ¬ G k) ∧ ¬ G vb ∧ (∀ x, G x → w.heap.size ≤ x) ∧ Var wr vb bb ∧ Below w.heap.size w wr)
      case atStart => exact ⟨_, 0, G, rfl, by omega, rfl, HB3.out, World.ownsRow_nil _ _ _ _, (fun k h => by cases h), HGV.out, HGL.out, HV.out, HBW.out⟩
      case round =>
        clear HB3 HV HBW HGV HGL hGr HNE
        obtain ⟨pv, j, G, rfl, hjk, rfl, hB, hown, hpg, hgv, hgl, hv, hb⟩ := hrel
        have hw1 : IntKind.i64.wrap ((j : Int) + 1) = ((j + 1 : Nat) : Int) := by rw [IntKind.wrap_i64]; omega
        by_cases hlt : j < steps.length
        · have h1 : decide ((j : Int) < (steps.length : Int)) = true := by simp; omega
          obtain ⟨⟨sk, sF, sI, sE, sV⟩, hs⟩ : ∃ s, steps[j]? = some s := ⟨steps[j], List.getElem?_eq_getElem hlt⟩
          rcases HS.out with ⟨_, h0⟩ | ⟨sb, so, sc', hsv, hsb, hcells⟩
          · rw [h0] at hlt; simp at hlt
          simp only [Value.slice.injEq] at hsv
          obtain ⟨rfl, -, rfl⟩ := hsv
          have e0 : wr.cell? ⟨sb, so + j * 5, none⟩ = some (.int .u8 (sk : Int)) := (hb.cell hsb).trans (hcells j _ hs 0 _ rfl)
          have e1 : wr.cell? ⟨sb, so + j * 5 + 1, none⟩ = some (.int .i64 sF) := (hb.cell hsb).trans (hcells j _ hs 1 _ rfl)
          have e2 : wr.cell? ⟨sb, so + j * 5 + 2, none⟩ = some (.int .i64 sI) := (hb.cell hsb).trans (hcells j _ hs 2 _ rfl)
          have e3 : wr.cell? ⟨sb, so + j * 5 + 3, none⟩ = some (.int .i64 sE) := (hb.cell hsb).trans (hcells j _ hs 3 _ rfl)
          have e4 : wr.cell? ⟨sb, so + j * 5 + 4, none⟩ = some (.int .i64 sV) := (hb.cell hsb).trans (hcells j _ hs 4 _ rfl)
          have hA : Below wr.heap.size wr (wr.alloc (.cells #[.int .u8 (sk : Int), .int .i64 sF, .int .i64 sI, .int .i64 sE, .int .i64 sV] 29)) := (Below.refl _ wr).alloc (Nat.le_refl _) _
          have HT := Lib.hid (thrown_bld G wr (wr.alloc (.cells #[.int .u8 (sk : Int), .int .i64 sF, .int .i64 sI, .int .i64 sE, .int .i64 sV] 29)) vb bb lb (L0 + 100000 * j) _ ⟨sk, sF, sI, sE, sV⟩ hB hv hgv (HG.out.stay (Stay.of_below hb)) (bnd_b 100000 HN.out HL0.out (by omega))
            (HK.out j _ hs).1 (HK.out j _ hs).2 hA (heap_alloc_last wr _) (by simp))
          obtain ⟨N, hN⟩ : ∃ N, N = L0 + 100000 * j := ⟨_, rfl⟩
          obtain ⟨R, hR⟩ : ∃ R, R = bldRun (steps.take j) (xs0, []) := ⟨_, rfl⟩
          rw [← hR] at hB hown HT
          rw [← hN] at HT hB
          have HB := Lib.hid hB
          have HO := Lib.hid hown
          have HPG := Lib.hid hpg
          have HGV := Lib.hid hgv
          have HGL := Lib.hid hgl
          have HV := Lib.hid hv
          have HBW := Lib.hid hb
          have HSJ := Lib.hid hs
          have HRE := Lib.hid hR
          have HNE := Lib.hid hN
          clear hB hown hpg hgv hgl hv hb hs hR hN hcells hA hsb
          go_upto_region 10 with (fail)
          clear e0 e1 e2 e3 e4
          go_wp2_with fail
          refine HT.out.mono ?_
          rintro e w2 ⟨rfl, t1, t2, t3⟩
          clear HT
          obtain ⟨b2, hb2⟩ : ∃ b2, b2 = (bldStep R.1 ⟨sk, sF, sI, sE, sV⟩).2 := ⟨_, rfl⟩
          rw [← hb2]
          have hsz : (wr.alloc (.cells #[.int .u8 (sk : Int), .int .i64 sF, .int .i64 sI, .int .i64 sE, .int .i64 sV] 29)).heap.size = wr.heap.size + 1 := by simp
          rw [hsz] at t2 t3
          have hO2 := own_but HO.out t1 fun k hk h => h.elim (HPG.out k hk) (own_off HO.out HB.out.blk (by decide) k hk)
          have hV2 : Var w2 vb bb := t1.at HV.out fun h => h.elim HGV.out (ne_of_ty HV.out HB.out.blk (by decide))
          have hW2 : Below w.heap.size w w2 := HBW.out.trans (t1.below HBW.out.size fun x h => by rcases h with h | h; exact HGL.out x h; rw [h]; exact HBB.out)
          have HT2 := Lib.hid t2
          have HT3 := Lib.hid t3
          have HO2 := Lib.hid hO2
          have HV2 := Lib.hid hV2
          have HW2 := Lib.hid hW2
          have HSB : Hid (∀ k, pv.ownBlock = some k → k < wr.heap.size) := fun k hk => (HO.out.lt k hk).2
          have HSV : Hid (vb < wr.heap.size) := lt_of_block HV.out
          have HB2E := Lib.hid hb2
          clear t1 t2 t3 hO2 hV2 hW2 hb2 hsz
          have q1 : j + 1 ≤ maxLen := by unfold maxLen; omega
          have q2 : (j + 1) * 1 ≤ 140737488355328 := by omega
          have q3 : w.heap.size ≤ (w2.alloc (.cells #[.bool b2] 4)).heap.size := Nat.le_trans HW2.out.size (by simp)
          have HQ := Lib.hid (And.intro q1 (And.intro q2 q3))
          clear q1 q2 q3
          go_wp2_with (at_builtin; refine wpList_append_own_at _ rfl (.tmp 34) (.tmp 37) 25 rfl w.heap.size 4 i4 (.bool false) 1 1 Try.underlying25 HI4.out.1 HI4.out.2.1 HI4.out.2.2.1 HI4.out.2.2.2 rfl (by decide) _ _ _ rfl (HO2.out.alloc _) ⟨w2.heap.size, 0, none⟩ 1 1 [.bool b2] rfl rfl (new_cell _ _ _) (one_oneCell rfl) HQ.out.1 HQ.out.2.1 HQ.out.2.2 ?_)
          intro pv2 w5 hown2 hgrow2 _ hat
          have hG1 : But (fun x => pv.ownBlock = some x) w2 w5 := (but_alloc w2 (.cells #[.bool b2] 4) _).trans (but_grown hgrow2)
          have hpg2 : ∀ k, pv.ownBlock = some k → ¬ gap G wr.heap.size (wr.heap.size + 1 + 1) k := fun k hk h => h.elim (fun h => HPG.out k hk h.1) fun h => by have := HSB.out k hk; omega
          have hoff := own_off HO2.out HT2.out.blk (by decide)
          have hBut : But (fun x => ¬ gap G wr.heap.size (wr.heap.size + 1 + 1) x ∧ x ≠ bb) w2 w5 := hG1.wider fun x _ hx => ⟨hpg2 x hx, hoff x hx⟩
          have hst5 : Stay w2 w5 := (Stay.of_below ((Below.refl w2.heap.size w2).alloc (Nat.le_refl _) (.cells #[.bool b2] 4))).trans (grown_stay (HO2.out.alloc _) hgrow2 (by decide))
          have hB5 := HT2.out.gap hBut hst5
          have hV5 : Var w5 vb bb := hG1.at HV2.out fun h => own_off HO2.out HV2.out (by decide) vb h rfl
          have hW5 : Below w.heap.size w w5 := HW2.out.trans (hG1.below HW2.out.size fun x hx => (HO2.out.lt x hx).1)
          have hv5 : ¬ gap (gap G wr.heap.size (wr.heap.size + 1 + 1)) w2.heap.size w5.heap.size vb := fun h => h.elim (fun h => h.1.elim (fun h => HGV.out h.1) fun h => by have := HSV.out; omega) fun h => by have := HSV.out; have := HT3.out; have := hG1.size; omega
          have hl5 : ∀ x, gap (gap G wr.heap.size (wr.heap.size + 1 + 1)) w2.heap.size w5.heap.size x → w.heap.size ≤ x := fun x h => h.elim (fun h => h.1.elim (fun h => HGL.out x h.1) fun h => by have := HBW.out.size; omega) fun h => by have := hW5.size; omega
          have hp5 : ∀ k, pv2.ownBlock = some k → ¬ gap (gap G wr.heap.size (wr.heap.size + 1 + 1)) w2.heap.size w5.heap.size k := fun k hk h => by
            have hk5 := (hown2.lt k hk).2
            rcases h with h | h
            · rcases hat with hat | hat
              · exact hpg2 k (hat ▸ hk) h.1
              · rw [hat] at hk
                have hk' : w2.heap.size + 1 = k := by simpa using hk
                have := h.2
                omega
            · omega
          have HFIN := Lib.hid (And.intro hB5 (And.intro hown2 (And.intro hp5 (And.intro hv5 (And.intro hl5 (And.intro hV5 hW5))))))
          clear hG1 hpg2 hoff hBut hst5 hB5 hV5 hW5 hv5 hl5 hp5 hown2 hgrow2 hat HO2 HT2 HT3 HV2 HW2
          go_wp2_with fail
          go_roundg (gk - 1)
          case measure => omega
          case rel =>
            obtain ⟨f1, f2, f3, f4, f5, f6, f7⟩ := HFIN.out
            have e1 : steps.take (j + 1) = steps.take j ++ [⟨sk, sF, sI, sE, sV⟩] := by rw [List.take_add_one, HSJ.out]; rfl
            refine ⟨_, j + 1, _, rfl, by omega, rfl, ?_, ?_, f3, f4, f5, f6, f7⟩
            · rw [e1, bldRun_snoc, ← HRE.out, mul_step 100000]
              rw [HNE.out] at f1
              exact f1
            · rw [e1, bldRun_snoc, ← HRE.out]
              simp only [← HB2E.out, List.map_append]
              exact f2
        · have h1 : decide ((j : Int) < (steps.length : Int)) = false := by simp; omega
          obtain rfl : j = steps.length := by omega
          rw [List.take_length] at hB hown
          obtain ⟨⟨X, ps⟩, hR⟩ : ∃ R, R = bldRun steps (xs0, []) := ⟨_, rfl⟩
          rw [← hR] at hB hown
          simp only at hB hown
          have HRF := Lib.hid hR
          clear hR
          have hX := hB.lst.list
          obtain ⟨N, hN⟩ : ∃ N, N = L0 + 100000 * steps.length := ⟨_, rfl⟩
          rw [← hN] at hX
          have hNb : N < 33554431 := bnd_c 100000 HN.out HL0.out hN
          obtain ⟨XL, hXL⟩ : ∃ XL, XL = X.length := ⟨_, rfl⟩
          have hXN : XL ≤ N := by obtain ⟨_, _, _, _, _, _, _, hd⟩ := hX; rw [hXL]; exact hd.1
          have HX := Lib.hid hX
          have HP := Lib.hid hown
          have HBK := Lib.hid hB.blk
          have HV := Lib.hid hv
          have HBW := Lib.hid hb
          have HXL := Lib.hid hXL
          have HNB := Lib.hid hNb
          have HXN := Lib.hid hXN
          clear hX hown hB hv hb hXL hNb hXN hN hpg hgv hgl hlt
          go_wp2_with fail
          clear h1 hw1
          obtain ⟨W3, hW3⟩ : ∃ W3, W3 = wr := ⟨_, rfl⟩
          have HW3 : Hid (Below W3.heap.size W3 wr) := by rw [hW3]; exact Below.refl _ _
          rw [← hW3] at HX HP HBK HV HBW
          clear hW3
          go_loopg [4, 13] XL (fun q v4 v13 wr => ∃ (av : Value) (j : Nat), av = v4 ∧ j + q = XL ∧ v13 = .int .i64 (j : Int) ∧ wr.ownsRow W3.heap.size 2 1 av (X.take j).length ((X.take j).map (Value.int .i64)) ∧ Below W3.heap.size W3 wr)
          case atStart => exact ⟨_, 0, rfl, by omega, rfl, World.ownsRow_nil _ _ _ _, HW3.out⟩
          case round =>
            clear HW3
            obtain ⟨av, j, rfl, hjk, rfl, hown, hb⟩ := hrel
            have hw1 : IntKind.i64.wrap ((j : Int) + 1) = ((j + 1 : Nat) : Int) := by have := HNB.out; have := HXN.out; rw [IntKind.wrap_i64]; omega
            have HO := Lib.hid hown
            have HB := Lib.hid hb
            have hbk : wr.heap[bb]? = _ := (hb.block bb (lt_of_block HBK.out)).trans HBK.out
            have hvr : wr.heap[vb]? = _ := (hb.block vb (lt_of_block HV.out)).trans HV.out
            have hX := HX.out.stay (Stay.of_below hb)
            have HLEN := Lib.hid (bld_len_w hbk (R := fun v w' => v = .int .i64 (XL : Int) ∧ w' = wr) ((len_any hX).mono fun e w' h => ⟨_, h.1, by rw [HXL.out], h.2.symm⟩))
            have v0 := cell_at (j := 0) hvr rfl
            by_cases hlt : j < XL
            · have h1 : decide ((j : Int) < (XL : Int)) = true := by simp; omega
              have hjX : j < X.length := by have := HXL.out; omega
              have HGET := Lib.hid (bld_get_w (j : Int) hbk (R := fun v w' => v = .int .i64 X[j] ∧ w' = wr.drew) ((get_list hX hjX).mono fun e w' h => ⟨_, h.1, rfl, h.2.symm⟩))
              have hZ : X.take (j + 1) = X.take j ++ [X[j]] := by rw [List.take_add_one, List.getElem?_eq_getElem hjX]; rfl
              have hZl : (X.take j).length ≤ 33554431 := by rw [List.length_take]; have := HNB.out; have := HXN.out; omega
              generalize X[j] = y at HGET hZ
              generalize X.take j = Z at HO hZ hZl
              have HZ := Lib.hid hZ
              have HZL := Lib.hid hZl
              clear hjX hZ hZl hX hbk hown hb hvr
              go_wp2_with fail
              refine HLEN.out.mono ?_
              rintro e w2 ⟨v, rfl, rfl, rfl⟩
              go_wp2_with fail
              refine HGET.out.mono ?_
              rintro e w2 ⟨v, rfl, rfl, rfl⟩
              clear HLEN HGET v0
              go_wp2_with (at_builtin; refine wpList_app_one' rfl (.tmp 46) (.tmp 50) rfl (B := W3.heap.size) (ys := Z) (World.ownsRow.alloc (w := w2.drew) HO.out _) rfl _ y rfl (heap_alloc_last _ _) HZL.out (Nat.le_trans HB.out.size (by simp)) ?_)
              intro v2 w5 hown2 hgrow2
              have hB5 := below_grown (HB.out.drew.alloc HB.out.drew.size (.cells #[.int .i64 y] 2)) (show w2.drew.ownsRow _ _ _ _ _ _ from HO.out) (Nat.le_refl _) (Nat.le_refl _) hgrow2
              have HFIN := Lib.hid (And.intro hown2 hB5)
              clear hown2 hgrow2 hB5 HO HB
              go_wp2_with fail
              go_roundg (gk - 1)
              case measure => omega
              case rel =>
                refine ⟨_, j + 1, rfl, by omega, rfl, ?_, HFIN.out.2⟩
                rw [HZ.out]
                simpa using HFIN.out.1
            · have h1 : decide ((j : Int) < (XL : Int)) = false := by simp; omega
              obtain rfl : XL = j := by omega
              have hTK : X.take XL = X := by rw [HXL.out, List.take_length]
              rw [hTK] at HO
              obtain ⟨D, o, hAt⟩ : ∃ D o, ListAt wr lb N D o X := by
                obtain ⟨b, d, o, h1, h2⟩ := hX
                simp only [Value.pointer.injEq, Option.some.injEq, Addr.mk.injEq, and_true] at h1
                subst h1
                exact ⟨d, o, h2⟩
              have HAT := Lib.hid hAt
              have HIT := Lib.hid (bld_iter_w hbk (R := fun v w' => ∃ ib, v = .pointer (some ⟨ib, 0, none⟩) ∧ wr.heap.size ≤ ib ∧ Below wr.heap.size wr w' ∧ Itr w' ib lb N D o X 0) ((iterator_w lb N D o X wr hAt).mono fun e w' ⟨ib, h1, h2, h3, h4⟩ => ⟨_, h1, ib, rfl, h2, h3, h4⟩))
              have HBK4 := Lib.hid hbk
              have HV4 := Lib.hid hvr
              clear hTK hX hAt hbk hvr hown hb hlt
              go_wp2_with fail
              refine HLEN.out.mono ?_
              rintro e w2 ⟨v, rfl, rfl, rfl⟩
              go_wp2_with fail
              refine HIT.out.mono ?_
              rintro e W5 ⟨v, rfl, ib, rfl, i1, i2, i3⟩
              obtain ⟨W4, hW4⟩ : ∃ W4, W4 = w2 := ⟨_, rfl⟩
              rw [← hW4] at i1 i2 HO HB HBK4 HV4 HAT
              have HI1 := Lib.hid i1
              have HI2 := Lib.hid i2
              have HI3 := Lib.hid i3
              clear hW4 i1 i2 i3 HLEN HIT v0 h1 hw1
              go_wp2_with fail
              go_loopg [6] XL (fun q v6 wr => ∃ (wv : Value) (j : Nat), wv = v6 ∧ j + q = XL ∧ Itr wr ib lb N D o X (j : Int) ∧ wr.ownsRow W4.heap.size 2 1 wv (X.take j).length ((X.take j).map (Value.int .i64)) ∧ Below W4.heap.size W4 wr)
              case atStart => exact ⟨_, 0, rfl, by omega, HI3.out, World.ownsRow_nil _ _ _ _, HI2.out⟩
              case round =>
                clear HI2 HI3
                obtain ⟨wv, j, rfl, hjk, hit, hown, hb⟩ := hrel
                have HIT := Lib.hid hit
                have HOW := Lib.hid hown
                have HBW4 := Lib.hid hb
                have hdn : isDone (j : Int) X.length = decide (XL ≤ j) := by
                  rw [← HXL.out, Bool.eq_iff_iff]; simp [isDone]; omega
                obtain ⟨arr, dep, hIB, hLA, -⟩ := hit
                have hcd := done_w ib lb arr _ dep N D o X wr hIB hLA
                rw [hdn] at hcd
                have HCD := Lib.hid hcd
                clear hIB hLA hcd hdn hown hb
                by_cases hlt : j < XL
                · have hdt : decide (XL ≤ j) = false := by simp; omega
                  have hjX : j < X.length := by have := HXL.out; omega
                  obtain ⟨y, hy⟩ : ∃ y, X[j]? = some y := ⟨_, List.getElem?_eq_getElem hjX⟩
                  have hZ : X.take (j + 1) = X.take j ++ [y] := by rw [List.take_add_one, hy]; rfl
                  have hZl : (X.take j).length ≤ 33554431 := by rw [List.length_take]; have := HNB.out; have := HXN.out; omega
                  have HY := Lib.hid hy
                  generalize X.take j = Z at HOW hZ hZl
                  have HZ := Lib.hid hZ
                  have HZL := Lib.hid hZl
                  have HITD : Hid (Itr wr.drew ib lb N D o X (j : Int)) := HIT.out.of_but (S := fun _ => False) (But.refl _ wr).drew id (fun _ _ _ h _ => h)
                  have hnd : isDone (j : Int) X.length = false := not_done (by omega) (by omega)
                  have HND := Lib.hid hnd
                  clear hy hjX hZ hZl hnd
                  go_wp2_with fail
                  refine HCD.out.mono ?_
                  rintro e w2 ⟨rfl, rfl⟩
                  go_wp2_with fail
                  refine (next_w ib lb N D o X _ _ HITD.out).mono ?_
                  rintro e w2 ⟨n1, ⟨n2, -, -⟩ | ⟨i, x, n2, n3, rfl, n4⟩⟩
                  · rw [HND.out] at n2; cases n2
                  · obtain rfl : j = i := by omega
                    rw [HY.out] at n3
                    simp only [Option.some.injEq] at n3
                    subst n3
                    have hib : W4.heap.size ≤ ib := HI1.out
                    have hO2 := own_but (w := wr.drew) HOW.out n1 fun k hk h => own_off HOW.out HIT.out.block.choose_spec (by decide) k hk h
                    have hB2 : Below W4.heap.size W4 w2 := HBW4.out.drew.trans (n1.below HBW4.out.drew.size fun x h => by rw [show x = ib from h]; exact hib)
                    have HO2 := Lib.hid hO2
                    have HB2 := Lib.hid hB2
                    have HN4 := Lib.hid n4
                    clear n1 n2 n4 hib hO2 hB2 HITD HCD HOW HBW4 HIT
                    go_wp2_with (at_builtin; refine wpList_app_one' rfl (.tmp 62) (.tmp 64) rfl (B := W4.heap.size) (ys := Z) (HO2.out.alloc _) rfl _ y rfl (heap_alloc_last _ _) HZL.out (Nat.le_trans HB2.out.size (by simp)) ?_)
                    intro v2 w5 hown2 hgrow2
                    have hB5 := below_grown (HB2.out.alloc HB2.out.size (.cells #[.int .i64 y] 2)) HO2.out (Nat.le_refl _) (Nat.le_refl _) hgrow2
                    have hA : But (fun _ => False) w2 (w2.alloc (.cells #[.int .i64 y] 2)) := but_alloc _ _ _
                    have hI5 : Itr w5 ib lb N D o X ((j : Int) + 1) := by
                      have h1 := HN4.out.of_but hA id (Stay.of_below ((Below.refl w2.heap.size w2).alloc (Nat.le_refl _) _))
                      refine h1.of_but (but_grown hgrow2) (fun h => ?_) (grown_stay (HO2.out.alloc _) hgrow2 (by decide))
                      exact own_off (HO2.out.alloc _) h1.block.choose_spec (by decide) ib h rfl
                    have HFIN := Lib.hid (And.intro hown2 (And.intro hB5 hI5))
                    clear hown2 hgrow2 hB5 hA hI5 HO2 HB2 HN4
                    go_wp2_with fail
                    go_roundg (gk - 1)
                    case measure => omega
                    case rel =>
                      refine ⟨_, j + 1, rfl, by omega, HFIN.out.2.2, ?_, HFIN.out.2.1⟩
                      rw [HZ.out]
                      simpa using HFIN.out.1
                · have hdt : decide (XL ≤ j) = true := by simp; omega
                  obtain rfl : XL = j := by omega
                  rw [show X.take XL = X by rw [HXL.out, List.take_length]] at HOW
                  have hbk : wr.drew.heap[bb]? = some (.cells #[.pointer (some ⟨lb, 0, none⟩)] 115 (0, 0)) := (HBW4.out.drew.block bb (lt_of_block HBK4.out)).trans HBK4.out
                  have hvr : wr.drew.heap[vb]? = _ := (HBW4.out.drew.block vb (lt_of_block HV4.out)).trans HV4.out
                  have HBK6 := Lib.hid hbk
                  have v0 := cell_at (j := 0) hvr rfl
                  have HLI := Lib.hid (bld_list_w hbk)
                  have hset : But (· = bb) wr.drew (wr.drew.setCell ⟨bb, 0, none⟩ (.pointer none)) := (But.refl (· = bb) wr.drew).setCell (p := ⟨bb, 0, none⟩) (.inl rfl) _
                  have hst : Stay wr.drew (wr.drew.setCell ⟨bb, 0, none⟩ (.pointer none)) := hset.stay fun b c t _ e h' => by
                    have e' : b = bb := e
                    subst e'
                    rw [hbk] at h'
                    simp only [Option.some.injEq, Obj.cells.injEq] at h'
                    rw [← h'.2.1]
                    decide
                  have hLt : IsList (wr.drew.setCell ⟨bb, 0, none⟩ (.pointer none)) (.pointer (some ⟨lb, 0, none⟩)) N X := ⟨lb, D, o, rfl, (HAT.out.stay (Stay.of_below HBW4.out.drew)).stay hst⟩
                  have hA1 := own_below (own_below HP.out HB.out) HBW4.out.drew
                  have hP1 := own_but hA1 hset fun k hk h => own_off hA1 hbk (by decide) k hk h
                  have hA2 := own_below HO.out HBW4.out.drew
                  have hP2 := own_but hA2 hset fun k hk h => own_off hA2 hbk (by decide) k hk h
                  have hP3 := own_but (w := wr.drew) HOW.out hset fun k hk h => own_off (w := wr.drew) HOW.out hbk (by decide) k hk h
                  have hW6 : Below w.heap.size w (wr.drew.setCell ⟨bb, 0, none⟩ (.pointer none)) := ((HBW.out.trans (HB.out.mono HBW.out.size)).trans (HBW4.out.drew.mono (Nat.le_trans HBW.out.size HB.out.size))).trans (hset.below (Nat.le_trans (Nat.le_trans HBW.out.size HB.out.size) HBW4.out.drew.size) fun x h => by rw [show x = bb from h]; exact HBB.out)
                  have HGOT := Lib.hid (got_any hLt (by have := HNB.out; omega))
                  have HF := Lib.hid (And.intro hP1 (And.intro hP2 (And.intro hP3 hW6)))
                  clear hset hst hLt hA1 hP1 hA2 hP2 hP3 hW6 hbk hvr hlt HIT
                  go_wp2_with fail
                  refine HCD.out.mono ?_
                  rintro e w2 ⟨rfl, rfl⟩
                  go_wp2_with fail
                  refine HLI.out.mono ?_
                  rintro e w2 ⟨rfl, rfl⟩
                  clear v0 HLI HCD
                  generalize wr.drew.setCell ⟨bb, 0, none⟩ (.pointer none) = W6 at HGOT HF ⊢
                  go_wp2_with fail
                  refine HGOT.out.mono ?_
                  rintro e W7 ⟨u, rfl, u1, u2, -⟩
                  have HU1 := Lib.hid u1
                  have HU2 := Lib.hid u2
                  clear u1 u2 HGOT
                  go_wp2_with fail
                  refine bodyPost_ret (results_tmp4 rfl _ _ _) rfl ?_
                  obtain ⟨f1, f2, f3, f4⟩ := HF.out
                  refine ⟨_, _, _, _, rfl, f4.trans (HU2.out.mono f4.size), ?_⟩
                  rw [← HRF.out]
                  exact ⟨SlV.of_own (own_below f2 HU2.out), SlV.of_own HU1.out, SlV.of_own (own_below f3 HU2.out), SlV.of_own (own_below f1 HU2.out)⟩

end Go.Proofs.Ytnahipfdnadccaa
