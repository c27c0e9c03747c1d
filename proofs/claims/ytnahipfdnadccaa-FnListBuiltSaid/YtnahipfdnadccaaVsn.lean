/- The walk over the law FnListVersions. Conditions of this file: none. -/
import Derived.Test.YtnahipfdnadccaaSpecW
import Derived.Test.YtnahipfdnadccaaSpecT
import Derived.Test.YtnahipfdnadccaaSepD
namespace Go.Proofs.Ytnahipfdnadccaa
open Go.RowKit

theorem versRun_ne' (steps : List Stp) (xs0 : List Int) : (versRun steps ([xs0], [])).1 ≠ [] := fun h => by
  have := versRun_len steps ([xs0], [])
  rw [h] at this
  simp at this
theorem versRun_0 (steps : List Stp) (xs0 : List Int) : (versRun steps ([xs0], [])).1[0]? = some xs0 := by
  have gen : ∀ (l : List Stp) (r : List (List Int) × List Bool), r.1[0]? = some xs0 → (versRun l r).1[0]? = some xs0 := by
    intro l
    induction l with
    | nil => intro r h; exact h
    | cons s l ih =>
      intro r h
      refine ih _ ?_
      have hl : 0 < r.1.length := (List.getElem?_eq_some_iff.1 h).1
      show (r.1 ++ _)[0]? = some xs0
      rw [List.getElem?_append_left hl]
      exact h
  exact gen steps _ rfl

set_option maxRecDepth 100000 in
set_option maxHeartbeats 1600000 in
theorem vsn_w (u sv : Value) (xs0 : List Int) (steps : List Stp) (w : World) (hu : SlN w u (xs0.map (Value.int .i64))) (hs : StpV w sv steps) (hG : Glob w) :
    Calls Try.prog 9 #[u, sv] w fun e w' => e = .returned (.bool true) ∧ Below w.heap.size w w' := by
  have HS := Lib.hid hs
  have HU := Lib.hid hu
  obtain ⟨ua, uc, rfl, -, -⟩ := hu
  rw [List.length_map] at HU ⊢
  have HG := Lib.hid hG
  obtain ⟨a, cap, rfl, -⟩ := hs
  clear hG
  go_enter Try.func9, Try.ntmps9
  by_cases c0 : 2147483647 < xs0.length
  · have d0 : decide ((2147483647 : Int) < (xs0.length : Int)) = true := by simp; omega
    go_wp2_with fail
    go_ret
    exact ⟨rfl, Below.refl _ _⟩
  have d0 : decide ((2147483647 : Int) < (xs0.length : Int)) = false := by simp; omega
  by_cases c1 : 2147483647 < steps.length
  · have d1 : decide ((2147483647 : Int) < (steps.length : Int)) = true := by simp; omega
    go_wp2_with fail
    go_ret
    exact ⟨rfl, Below.refl _ _⟩
  · have d1 : decide ((2147483647 : Int) < (steps.length : Int)) = false := by simp; omega
    by_cases c2 : 40 < steps.length
    · have d2 : decide ((40 : Int) < (steps.length : Int)) = true := by simp; omega
      go_wp2_with fail
      refine (awake _ HG.out).mono ?_
      rintro e w' ⟨rfl, hb⟩
      have HB := Lib.hid hb
      clear hb
      go_wp2_with fail
      go_ret
      exact ⟨rfl, HB.out⟩
    · have d2 : decide ((40 : Int) < (steps.length : Int)) = false := by simp; omega
      have HV := Lib.hid (versions_w (.slice ua xs0.length uc) (.slice a steps.length cap) xs0 steps 300 4000 w HU.out HS.out (by omega) (by omega) (by omega) (by omega))
      have HL : Hid (steps.length ≤ 40) := by show _ ≤ _; omega
      go_wp2_with fail
      refine HV.out.mono ?_
      rintro e w1 ⟨l, p, ok, rfl, hb1, hok⟩
      have HB1 := Lib.hid hb1
      have HOK := Lib.hid hok
      clear hb1 hok HV
      cases ok with
      | false =>
        go_wp2_with fail
        refine (awake _ (HG.out.stay (Stay.of_below HB1.out))).mono ?_
        rintro e w' ⟨rfl, hb⟩
        have HB := Lib.hid (HB1.out.trans (hb.mono HB1.out.size))
        clear hb
        go_wp2_with fail
        go_ret
        exact ⟨rfl, HB.out⟩
      | true =>
        obtain ⟨T, hT, hSV⟩ := HOK.out rfl
        have HSV := Lib.hid hSV
        have HT := Lib.hid hT
        have HXB : Hid (xs0.length ≤ 4000) := by show _ ≤ _; have := (hSV.outer (versRun_ne' _ _)).2 0 xs0 (versRun_0 _ _); omega
        clear hSV hT
        clear HOK
        go_wp2_with fail
        refine (listTo_w _ steps w1 (HS.out.below HB1.out) (by have := HL.out; omega)).mono ?_
        rintro e w2 ⟨v, rfl, hv, hb2⟩
        have HV := Lib.hid hv
        have HB2 := Lib.hid hb2
        clear hv hb2
        go_wp2_with fail
        refine (listRun_s w2 (.slice ua xs0.length uc) xs0.length xs0 steps v HV.out (new_list _ xs0 w2 ((HU.out.below HB1.out).below HB2.out).slv (by have := HXB.out; omega)) (by have := HL.out; have := HXB.out; omega) (HG.out.stay ((Stay.of_below HB1.out).trans (Stay.of_below HB2.out)))).mono ?_
        rintro e w3 ⟨l', p', rfl, hb3, ho, hp⟩
        have HB3 := Lib.hid hb3
        have HO := Lib.hid ho
        have HP := Lib.hid hp
        clear hb3 ho hp
        have hbig : ∀ (i : Nat) (xs : List Int), (versRun steps ([xs0], [])).1[i]? = some xs → xs.length ≤ 1000000 := fun i xs hi => by have := (HSV.out.outer (versRun_ne' _ _)).2 i xs hi; have := HT.out; omega
        have hso := (((HSV.out.outer (versRun_ne' _ _)).1).below HB2.out).below HB3.out
        have hsp := ((SlV.of_own HSV.out.ownP).below HB2.out).below HB3.out
        have hvl := versRun_len steps ([xs0], [])
        have hpl := versRun_lenP steps ([xs0], [])
        have HSAME := Lib.hid (listSame_w HO.out hso hbig (by rw [hvl]; have := HL.out; simp; omega))
        have HPL : Hid ((versRun steps ([xs0], [])).2.length ≤ 40) := by show _ ≤ _; rw [hpl]; simpa using HL.out
        have HSP := Lib.hid hsp
        have HBB := Lib.hid ((HB1.out.trans (HB2.out.mono HB1.out.size)).trans (HB3.out.mono (Nat.le_trans HB1.out.size HB2.out.size)))
        clear hbig hso hsp hvl hpl HSV HB1 HB2 HB3
        go_wp2_with fail
        refine HSAME.out.mono ?_
        rintro e w4 ⟨rfl, hs4⟩
        have HS4 := Lib.hid hs4
        clear hs4
        go_wp2_with fail
        refine (equal_bools (xs := (versRun steps ([xs0], [])).2) (ys := (versRun steps ([xs0], [])).2) (HP.out.same HS4.out) (HSP.out.same HS4.out) (by have := HPL.out; omega)).mono ?_
        rintro e w5 ⟨he, hs5⟩
        rw [decide_eq_true rfl] at he
        subst he
        have HS5 := Lib.hid (HS4.out.trans hs5)
        clear hs5
        go_wp2_with fail
        refine (awake _ (HG.out.stay ((Stay.of_below HBB.out).trans (Stay.of_below (HS5.out.below _))))).mono ?_
        rintro e w6 ⟨rfl, hb6⟩
        have HB6 := Lib.hid ((HBB.out.trans (HS5.out.below _)).trans (hb6.mono (HBB.out.trans (HS5.out.below _)).size))
        clear hb6
        go_wp2_with fail
        go_ret
        exact ⟨rfl, HB6.out⟩

end Go.Proofs.Ytnahipfdnadccaa
