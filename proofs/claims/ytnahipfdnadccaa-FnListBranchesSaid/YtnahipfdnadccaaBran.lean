/- The walk over the law FnListBranches. Conditions of this file: none. -/
import Derived.Test.YtnahipfdnadccaaSpecW
import Derived.Test.YtnahipfdnadccaaSpecT
import Derived.Test.YtnahipfdnadccaaSpecE
namespace Go.Proofs.Ytnahipfdnadccaa
open Go.RowKit

theorem info42 : (Try.prog.info? 42).map (fun i => (i.zero, i.size, i.bytes)) = some (some (.agg #[.int .u8 0, .int .i64 0, .int .i64 0, .int .i64 0, .int .i64 0]), 5, 40) := by kernel_rfl
theorem bran_ne (steps : List Stp) (xs0 : List Int) : (versRun steps ([xs0], [])).1 ≠ [] := fun h => by
  have := versRun_len steps ([xs0], [])
  rw [h] at this
  simp at this
theorem bran_nil (w : World) : SlN w (.slice none 0 0) (([] : List Int).map (Value.int .i64)) := ⟨none, 0, rfl, fun _ => rfl, fun i c h => by simp at h⟩

/-- the steps of the law: the list, then each step out of it -/
def branOf (n : Nat) (l : List Stp) : List Stp := ⟨4, 0, n, 0, 0⟩ :: l.map fun s => ⟨s.k, 1, s.I, s.E, s.V⟩

theorem StpV.of_own {w : World} {B n : Nat} {e : TypeId} {v : Value} {steps : List Stp} (h : w.ownsRow B e 5 v n (steps.flatMap Stp.cells)) (hn : n = steps.length) : StpV w v steps := by
  subst hn
  rcases h.2 with ⟨h1, h2⟩ | ⟨g, cap, cur, h1, h2, h3, _⟩
  · have : steps = [] := List.eq_nil_of_length_eq_zero h2
    subst this
    exact ⟨none, 0, h1, fun j s hs => by simp at hs⟩
  · refine ⟨_, cap, h1, fun j s hs => ⟨g, 0, rfl, fun i u hu => ?_⟩⟩
    have h4 := h.cells (g := g) (by rw [h1]; rfl) (j * 5 + i) u (flat_get steps j s hs i u hu)
    rw [Addr.add_lit] at h4
    rw [Nat.add_assoc]
    exact h4

theorem built_stp (w : World) {B : Nat} (s : Stp) (h : B ≤ w.heap.size) : (w.alloc (.cells s.cells.toArray 42)).ownsRow B 42 5 (.slice (some ⟨w.heap.size, 0, none⟩) 1 1) 1 s.cells :=
  ⟨rfl, .inr ⟨w.heap.size, 1, s.cells.toArray, rfl, h, heap_alloc_last w _, Nat.le_refl _, by unfold maxLen; omega, rfl, rfl⟩⟩

set_option maxRecDepth 100000 in
set_option maxHeartbeats 3200000 in
theorem bran_w (c : Int) (sv : Value) (steps0 : List Stp) (w : World) (hc : 0 ≤ c ∧ c ≤ 65535) (hs : StpV w sv steps0) (hG : Glob w) :
    Calls Try.prog 7 #[.int .u16 c, sv] w fun e w' => e = .returned (.bool true) ∧ Below w.heap.size w w' := by
  obtain ⟨n, hn⟩ : ∃ n : Nat, c.tmod 1200 = n := ⟨(c.tmod 1200).toNat, by have := Int.tmod_nonneg 1200 hc.1; omega⟩
  have hwc : IntKind.i64.wrap c = c := by rw [IntKind.wrap_i64]; omega
  obtain ⟨i42, hi, hz0, hz1, hz2⟩ := info_parts info42
  have HI := Lib.hid (And.intro hi (And.intro hz0 (And.intro hz1 hz2)))
  clear hi hz0 hz1 hz2
  have HS := Lib.hid hs
  have HG := Lib.hid hG
  obtain ⟨a, cap, rfl, hcells⟩ := hs
  have HCE := Lib.hid hcells
  clear hG hcells hc
  go_enter Try.func7, Try.ntmps7
  by_cases c1 : 2147483647 < steps0.length
  · have d1 : decide ((2147483647 : Int) < (steps0.length : Int)) = true := by simp; omega
    go_wp2_with fail
    go_ret
    exact ⟨rfl, Below.refl _ _⟩
  · have d1 : decide ((2147483647 : Int) < (steps0.length : Int)) = false := by simp; omega
    by_cases c2 : 30 < steps0.length
    · have d2 : decide ((30 : Int) < (steps0.length : Int)) = true := by simp; omega
      go_wp2_with fail
      refine (awake _ HG.out).mono ?_
      rintro e w' ⟨rfl, hb⟩
      have HB := Lib.hid hb
      clear hb
      go_wp2_with fail
      go_ret
      exact ⟨rfl, HB.out⟩
    · have d2 : decide ((30 : Int) < (steps0.length : Int)) = false := by simp; omega
      have HL0 : Hid (steps0.length ≤ 30) := by show _ ≤ _; omega
      have HO0 := Lib.hid (built_stp w (B := w.heap.size) ⟨4, 0, n, 0, 0⟩ (Nat.le_refl _))
      have HB0 : Hid (Below w.heap.size w (w.alloc (.cells (Stp.cells ⟨4, 0, n, 0, 0⟩).toArray 42))) := (Below.refl _ w).alloc (Nat.le_refl _) _
      go_wp2_with fail
      go_loopg [6, 29] steps0.length (fun k v i wr => ∃ j : Nat, j + k = steps0.length ∧ i = .int .i64 (j : Int) ∧ wr.ownsRow w.heap.size 42 5 v (j + 1) ((branOf n (steps0.take j)).flatMap Stp.cells) ∧ Below w.heap.size w wr)
      case atStart => exact ⟨0, by omega, rfl, by rw [show (branOf n (steps0.take 0)).flatMap Stp.cells = Stp.cells ⟨4, 0, n, 0, 0⟩ from rfl]; exact HO0.out, HB0.out⟩
      case round =>
        clear HO0 HB0 hn hwc
        obtain ⟨j, hjk, rfl, ho, hb⟩ := hrel
        have HO := Lib.hid ho
        have HB := Lib.hid hb
        clear ho hb
        have hw1 : IntKind.i64.wrap ((j : Int) + 1) = (j : Int) + 1 := by have := HL0.out; rw [IntKind.wrap_i64]; omega
        by_cases hlt : j < steps0.length
        · have h1 : decide ((j : Int) < (steps0.length : Int)) = true := by simp; omega
          obtain ⟨⟨sk, sF, sI, sE, sV⟩, hs⟩ : ∃ s, s = steps0[j] := ⟨_, rfl⟩
          have hs' : steps0[j]? = some ⟨sk, sF, sI, sE, sV⟩ := by rw [List.getElem?_eq_getElem hlt, hs]
          obtain ⟨sb, so, rfl, hcells⟩ := HCE.out j _ hs'
          have hsb : sb < w.heap.size := World.block_lt_of_cell? w _ (hcells 0 _ rfl)
          have e0 : wr.cell? ⟨sb, so + j * 5, none⟩ = some (.int .u8 (sk : Int)) := (HB.out.cell hsb).trans (hcells 0 _ rfl)
          have e1 : wr.cell? ⟨sb, so + j * 5 + 1, none⟩ = some (.int .i64 sF) := (HB.out.cell hsb).trans (hcells 1 _ rfl)
          have e2 : wr.cell? ⟨sb, so + j * 5 + 2, none⟩ = some (.int .i64 sI) := (HB.out.cell hsb).trans (hcells 2 _ rfl)
          have e3 : wr.cell? ⟨sb, so + j * 5 + 3, none⟩ = some (.int .i64 sE) := (HB.out.cell hsb).trans (hcells 3 _ rfl)
          have e4 : wr.cell? ⟨sb, so + j * 5 + 4, none⟩ = some (.int .i64 sV) := (HB.out.cell hsb).trans (hcells 4 _ rfl)
          have HSJ := Lib.hid hs'
          clear hcells hs hs' hsb
          go_upto_region 10 with (fail)
          have hA : Below wr.heap.size wr (wr.alloc (.cells #[.int .u8 (sk : Int), .int .i64 sF, .int .i64 sI, .int .i64 sE, .int .i64 sV] 42)) := (Below.refl _ wr).alloc (Nat.le_refl _) _
          have hbx := heap_alloc_last wr (.cells #[.int .u8 (sk : Int), .int .i64 sF, .int .i64 sI, .int .i64 sE, .int .i64 sV] 42)
          have HA := Lib.hid hA
          have hsz : Hid (w.heap.size ≤ wr.heap.size) := HB.out.size
          generalize hX : wr.alloc (.cells #[.int .u8 (sk : Int), .int .i64 sF, .int .i64 sI, .int .i64 sE, .int .i64 sV] 42) = X at hbx HA ⊢
          clear hX e0 e1 e2 e3 e4 hA
          have s1 := cell_at (j := 1) hbx rfl
          have f1 : X.frozen? ⟨wr.heap.size, 1, none⟩ = false := frozen_of_row _ _ _ _ _ hbx
          have HBX := Lib.hid hbx
          clear hbx
          go_upto_region 11 with (fail)
          have hby : (X.setCell ⟨wr.heap.size, 1, none⟩ (.int .i64 1)).heap[wr.heap.size]? = some (.cells #[.int .u8 (sk : Int), .int .i64 1, .int .i64 sI, .int .i64 sE, .int .i64 sV] 42 (0, 0)) := by
            have := heap_setCell_same X wr.heap.size 1 _ 42 (.int .i64 1) HBX.out
            simpa using this
          have HAY : Hid (Below wr.heap.size wr (X.setCell ⟨wr.heap.size, 1, none⟩ (.int .i64 1))) := HA.out.setCell (p := ⟨wr.heap.size, 1, none⟩) (Nat.le_refl _) _
          have HOY := Lib.hid (own_below HO.out HAY.out)
          have HBY := Lib.hid (HB.out.trans (HAY.out.mono HB.out.size))
          generalize hY : X.setCell ⟨wr.heap.size, 1, none⟩ (.int .i64 1) = Y at hby HAY HOY HBY ⊢
          generalize wr.heap.size = bx at hby ⊢
          clear hY HBX HA s1 f1 X HO HB HAY hsz
          have s0 := cell_at (j := 0) hby rfl
          have s1 := cell_at (j := 1) hby rfl
          have s2 := cell_at (j := 2) hby rfl
          have s3 := cell_at (j := 3) hby rfl
          have s4 := cell_at (j := 4) hby rfl
          go_wp2_with (at_builtin; refine wpList_append_own _ rfl (.tmp 34) (.tmp 36) 41 rfl w.heap.size 42 i42 (.agg #[.int .u8 0, .int .i64 0, .int .i64 0, .int .i64 0, .int .i64 0]) 5 40 Try.underlying41 HI.out.1 HI.out.2.1 HI.out.2.2.1 HI.out.2.2.2 rfl (by decide) _ _ _ rfl (HOY.out.alloc _) ⟨Y.heap.size, 0, none⟩ 1 1 (Stp.cells ⟨sk, 1, sI, sE, sV⟩) rfl rfl (stp_cells5 _ _) (stp_one _) (by have := HL0.out; unfold maxLen; omega) (by have := HL0.out; omega) (by have := HBY.out.size; simp; omega) ?_)
          intro v2 w2 hown2 hgrow2 _
          have HO2 := Lib.hid hown2
          have HB2 := Lib.hid (below_grown (HBY.out.alloc HBY.out.size (.cells (Stp.cells ⟨sk, 1, sI, sE, sV⟩).toArray 42)) HOY.out (Nat.le_refl _) (Nat.le_refl _) hgrow2)
          clear hown2 hgrow2
          go_wp2_with fail
          go_roundg (gk - 1)
          case measure => omega
          case rel =>
            refine ⟨j + 1, by omega, rfl, ?_, HB2.out⟩
            have e1 : steps0.take (j + 1) = steps0.take j ++ [⟨sk, sF, sI, sE, sV⟩] := by
              rw [List.take_add_one, HSJ.out]; rfl
            have e2 : branOf n (steps0.take (j + 1)) = branOf n (steps0.take j) ++ [⟨sk, 1, sI, sE, sV⟩] := by
              rw [e1]; simp [branOf]
            rw [e2, List.flatMap_append]
            simpa [List.flatMap_cons, List.flatMap_nil] using HO2.out
        · have h1 : decide ((j : Int) < (steps0.length : Int)) = false := by simp; omega
          obtain rfl : j = steps0.length := by omega
          have ho := HO.out
          rw [List.take_length] at ho
          obtain ⟨steps, hst⟩ : ∃ steps, steps = branOf n steps0 := ⟨_, rfl⟩
          rw [← hst] at ho
          have hl : steps.length = steps0.length + 1 := by rw [hst]; simp [branOf]
          have HSV := Lib.hid (StpV.of_own ho hl.symm)
          have HL : Hid (steps.length ≤ 31) := by show _ ≤ _; have := HL0.out; omega
          have hv := HSV.out
          obtain ⟨va, vc, rfl, -⟩ := hv
          clear ho hl HO HCE HS hst
          have HV := Lib.hid (versions_w (.slice none 0 0) (.slice va steps.length vc) [] steps 1200 60000 wr (bran_nil wr) HSV.out (by have := HL.out; omega) (by simp) (by omega) (by omega))
          have HGW := Lib.hid (HG.out.stay (Stay.of_below HB.out))
          go_wp2_with fail
          refine HV.out.mono ?_
          rintro e w1 ⟨l, p, ok, rfl, hb1, hok⟩
          have HB1 := Lib.hid hb1
          have HOK := Lib.hid hok
          clear hb1 hok HV
          cases ok with
          | false =>
            go_wp2_with fail
            refine (awake _ (HGW.out.stay (Stay.of_below HB1.out))).mono ?_
            rintro e w' ⟨rfl, hb⟩
            have HBF := Lib.hid (HB1.out.trans (hb.mono HB1.out.size))
            clear hb
            go_wp2_with fail
            go_ret
            exact ⟨rfl, HB.out.trans (HBF.out.mono HB.out.size)⟩
          | true =>
            obtain ⟨T, hT, hSV⟩ := HOK.out rfl
            have HSW := Lib.hid hSV
            have HT := Lib.hid hT
            clear hSV hT
            clear HOK
            go_wp2_with fail
            refine (listTo_w _ steps w1 (HSV.out.below HB1.out) (by have := HL.out; omega)).mono ?_
            rintro e w2 ⟨v, rfl, hv, hb2⟩
            have HV := Lib.hid hv
            have HB2 := Lib.hid hb2
            clear hv hb2
            go_wp2_with fail
            refine (listRun_s w2 (.slice none 0 0) 0 [] steps v HV.out (new0 _) (by have := HL.out; omega) (HGW.out.stay ((Stay.of_below HB1.out).trans (Stay.of_below HB2.out)))).mono ?_
            rintro e w3 ⟨l', p', rfl, hb3, ho, hp⟩
            have HB3 := Lib.hid hb3
            have HO := Lib.hid ho
            have HP := Lib.hid hp
            clear hb3 ho hp
            have hbig : ∀ (i : Nat) (xs : List Int), (versRun steps ([[]], [])).1[i]? = some xs → xs.length ≤ 1000000 := fun i xs hi => by have := (HSW.out.outer (bran_ne _ _)).2 i xs hi; have := HT.out; omega
            have hso := (((HSW.out.outer (bran_ne _ _)).1).below HB2.out).below HB3.out
            have hsp := ((SlV.of_own HSW.out.ownP).below HB2.out).below HB3.out
            have hvl := versRun_len steps ([[]], [])
            have hpl := versRun_lenP steps ([[]], [])
            have HSAME := Lib.hid (listSame_w HO.out hso hbig (by rw [hvl]; have := HL.out; simp; omega))
            have HPL : Hid ((versRun steps ([[]], [])).2.length ≤ 31) := by show _ ≤ _; rw [hpl]; simpa using HL.out
            have HSP := Lib.hid hsp
            have HBB := Lib.hid ((HB1.out.trans (HB2.out.mono HB1.out.size)).trans (HB3.out.mono (Nat.le_trans HB1.out.size HB2.out.size)))
            clear hbig hso hsp hvl hpl HSW HB1 HB2 HB3
            go_wp2_with fail
            refine HSAME.out.mono ?_
            rintro e w4 ⟨rfl, hs4⟩
            have HS4 := Lib.hid hs4
            clear hs4
            go_wp2_with fail
            refine (equal_bools (xs := (versRun steps ([[]], [])).2) (ys := (versRun steps ([[]], [])).2) (HP.out.same HS4.out) (HSP.out.same HS4.out) (by have := HPL.out; omega)).mono ?_
            rintro e w5 ⟨he, hs5⟩
            rw [decide_eq_true rfl] at he
            subst he
            have HS5 := Lib.hid (HS4.out.trans hs5)
            clear hs5
            go_wp2_with fail
            refine (awake _ (HGW.out.stay ((Stay.of_below HBB.out).trans (Stay.of_below (HS5.out.below _))))).mono ?_
            rintro e w6 ⟨rfl, hb6⟩
            have HB6 := Lib.hid ((HBB.out.trans (HS5.out.below _)).trans (hb6.mono (HBB.out.trans (HS5.out.below _)).size))
            clear hb6
            go_wp2_with fail
            go_ret
            exact ⟨rfl, HB.out.trans (HB6.out.mono HB.out.size)⟩

end Go.Proofs.Ytnahipfdnadccaa
