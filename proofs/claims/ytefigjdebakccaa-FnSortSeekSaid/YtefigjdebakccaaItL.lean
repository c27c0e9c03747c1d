/- An iterator over a sorted map: to the last pair below a node. -/
import Derived.Test.YtefigjdebakccaaItA
namespace Go.Proofs.Ytefigjdebakccaa
open Go.RowKit

set_option maxRecDepth 100000 in
set_option maxHeartbeats 3200000 in
theorem last_w (w : World) (ib mb : Nat) (arr : Array Value) (d r : Nat) (v : Value) (all bef es aft : List (Int × Int)) (hrd : r + d ≤ 31) (hi : ItB w ib mb arr (d : Int)) (hv : arr[1 + d * 2]? = some v) (hl : Low w arr d r v bef es aft) (ha : all = bef ++ es ++ aft) :
    Calls Try.prog 84 #[.pointer (some ⟨ib, 0, none⟩)] w fun e w' => e = .returned (.tuple #[]) ∧ But (· = ib) w w' ∧ St w' ib mb all (some (bef.length + es.length - 1)) := by
  have HI := Lib.hid hi
  have HV := Lib.hid hv
  have HL := Lib.hid hl
  have HRD := Lib.hid hrd
  have HALL := Lib.hid ha
  obtain ⟨B, hBe⟩ : ∃ B, B = bef.length + es.length := ⟨_, rfl⟩
  rw [← hBe]
  have HBE := Lib.hid hBe
  clear hi hv hl hrd ha hBe
  go_enter Try.func84, Try.ntmps84
  go_wp2_with fail
  go_loopg [] r (fun k wr => ∃ (d r : Nat) (v : Value) (bef es aft : List (Int × Int)) (arr : Array Value), k = r ∧ B = bef.length + es.length ∧ r + d ≤ 31 ∧ ItB wr ib mb arr (d : Int) ∧ arr[1 + d * 2]? = some v ∧ Low w arr d r v bef es aft ∧ all = bef ++ es ++ aft ∧ But (· = ib) w wr)
  case atStart => exact ⟨d, r, v, bef, es, aft, arr, rfl, HBE.out, HRD.out, HI.out, HV.out, HL.out, HALL.out, But.refl _ _⟩
  case round =>
    obtain ⟨d, r, v, bef, es, aft, arr, hkr, hbe, hrd, hi, hv, hl, hall, hb⟩ := hrel
    have hlk := hi.2.2.2.2
    have hd32 : d < 32 := by omega
    obtain ⟨x0, hx0⟩ := hlk d hd32
    have cd := cell_at hi.1 hi.2.2.2.1
    have cv := cell_at hi.1 hv
    have cx := cell_at hi.1 hx0
    have fx : wr.frozen? ⟨ib, 1 + d * 2 + 1, none⟩ = false := frozen_of_row _ _ _ _ _ hi.1
    have hd0 : (0 : Int) ≤ (d : Int) := by omega
    have hd1 : (d : Int) < 32 := by omega
    have HI2 := Lib.hid hi
    have HV2 := Lib.hid hv
    have HL2 := Lib.hid hl
    have HALL2 := Lib.hid hall
    have HB2 := Lib.hid hb
    have HRD2 := Lib.hid hrd
    have HBE2 := Lib.hid hbe
    clear hi hv hl hall hb hrd hbe hlk hx0
    go_upto_region 0 with (fail)
    refine region_tail 8 (by kernel_rfl) (by kernel_rfl) ?_
    simp only [List.take_succ_cons, List.take_zero, List.drop_succ_cons, List.drop_zero]
    repeat still_step
    refine wpStill_nil ?_
    rcases r with _ | r
    · obtain ⟨b, g, q, c, ar, rfl, h7, -, -, hpos, hle⟩ := LeafN.cells HL2.out.sn
      obtain ⟨N1, hN1⟩ : ∃ N1, N1 = es.length - 1 := ⟨_, rfl⟩
      have hN : N1 < es.length := by omega
      have HEND := Lib.hid (st_leaf (d := d) (x := N1) (by have := HRD2.out; omega) HI.out.1 HB2.out HI2.out HV2.out HL2.out hN HALL2.out)
      have hp : bef.length + N1 = B - 1 := by have := HBE2.out; omega
      rw [hp] at HEND
      have hbb := HB2.out.at h7 (ne133 HI.out.1 h7 (by decide))
      have hc1 := cell_at (j := 0) hbb rfl
      have t1 := as138_147 b
      have t2 := as138_138 b
      have hwa : IntKind.i64.wrap ((es.length : Int) - 1) = (N1 : Int) := by rw [IntKind.wrap_i64]; omega
      have hwb : (es.length : Int) - 1 = (N1 : Int) := by omega
      have hwc : IntKind.i64.wrap (N1 : Int) = (N1 : Int) := by rw [IntKind.wrap_i64]; omega
      clear hN1 hN hp hbb h7
      go_wp2_with fail
      refine bodyPost_ret (results_none rfl _ _ _) rfl ?_
      exact ⟨rfl, st_drew HEND.out⟩
    · have hsn := HL2.out.sn
      obtain ⟨kids, hB, hk, rfl⟩ := hsn
      have HBN := Lib.hid hB
      have HK := Lib.hid hk
      obtain ⟨b, g, q, c, ar, rfl, h7, h9, h12, hpos, hle⟩ := hB.cells
      obtain ⟨N1, hN1⟩ : ∃ N1, N1 = kids.length - 1 := ⟨_, rfl⟩
      have hN : N1 < kids.length := by omega
      obtain ⟨kd, hkd⟩ : ∃ kd, kids[N1]? = some kd := ⟨_, List.getElem?_eq_getElem hN⟩
      obtain ⟨kt, kq, hkl⟩ := (hk kd (List.mem_of_getElem? hkd)).ptr
      have HKD := Lib.hid hkd
      have HKL := Lib.hid hkl
      have hk0 := h12 N1 kd hkd
      rw [hkl] at hk0
      have HBK := Lib.hid (And.intro h7 (And.intro h9 hk0))
      have t1 := as147_147 b
      have hw : IntKind.i64.wrap ((d : Int) + 1) = (d : Int) + 1 := by rw [IntKind.wrap_i64]; omega
      have hwa : IntKind.i64.wrap ((kids.length : Int) - 1) = (N1 : Int) := by rw [IntKind.wrap_i64]; omega
      have hwb : (kids.length : Int) - 1 = (N1 : Int) := by omega
      have hwc : IntKind.i64.wrap (N1 : Int) = (N1 : Int) := by rw [IntKind.wrap_i64]; omega
      have hbb := HB2.out.at h7 (ne133 HI.out.1 h7 (by decide))
      have hc1 := cell_at (j := 0) hbb rfl
      have HN1 := Lib.hid hN1
      clear h7 h9 h12 hB hk hkd hkl hk0 hbb hN1
      go_upto_region 5 with (fail)
      have HIa := Lib.hid (HI2.out.setIdx hd32 (N1 : Int))
      have HBa : Hid (But (· = ib) w (wr.setCell ⟨ib, 1 + d * 2 + 1, none⟩ (.int .i64 (N1 : Int)))) := HB2.out.setCell (.inl rfl) _
      clear cd cv cx fx hc1 hwa hwb hwc
      generalize wr.setCell ⟨ib, 1 + d * 2 + 1, none⟩ (.int .i64 (N1 : Int)) = X at HIa HBa ⊢
      obtain ⟨ar1, har1⟩ : ∃ ar1, ar1 = arr.setIfInBounds (1 + d * 2 + 1) (.int .i64 (N1 : Int)) := ⟨_, rfl⟩
      rw [← har1] at HIa
      have HA1 := Lib.hid har1
      have ci := cell_at (j := 1 + d * 2 + 1) (v := .int .i64 (N1 : Int)) HIa.out.1 (by rw [har1, Array.getElem?_setIfInBounds_self_of_lt (by have := HI2.out.2.1; omega)])
      clear har1
      have hbb := HBa.out.at HBK.out.1 (ne133 HI.out.1 HBK.out.1 (by decide))
      have hbn := HBa.out.at HBK.out.2.1 (ne133 HI.out.1 HBK.out.2.1 (by decide))
      have hc1 := cell_at (j := 0) hbb rfl
      have hn0 := cell_at hbn HBK.out.2.2
      have cd := cell_at HIa.out.1 HIa.out.2.2.2.1
      have hd2 : d + 1 < 32 := by have := HRD2.out; omega
      obtain ⟨un, hun⟩ : ∃ u, ar1[1 + (d + 1) * 2]? = some u := ⟨_, Array.getElem?_eq_getElem (by have := HIa.out.2.1; omega)⟩
      obtain ⟨xn, hxn⟩ := HIa.out.2.2.2.2 (d + 1) hd2
      have cn := cell_at HIa.out.1 hun
      have cm := cell_at HIa.out.1 hxn
      have fn : X.frozen? ⟨ib, 1 + (d + 1) * 2, none⟩ = false := frozen_of_row _ _ _ _ _ HIa.out.1
      have fm : X.frozen? ⟨ib, 1 + (d + 1) * 2 + 1, none⟩ = false := frozen_of_row _ _ _ _ _ HIa.out.1
      have hd3 : (d : Int) + 1 < 32 := by omega
      have hd4 : (0 : Int) ≤ (d : Int) + 1 := by omega
      have hdt : ((d : Int) + 1).toNat = d + 1 := by omega
      have hpos' : (N1 : Int) < (kids.length : Int) := by omega
      have hpos0 : (0 : Int) ≤ (N1 : Int) := by omega
      clear hbb hbn hun hxn
      refine region_tail 21 (by kernel_rfl) (by kernel_rfl) ?_
      simp only [List.take_succ_cons, List.take_zero, List.drop_succ_cons, List.drop_zero]
      repeat still_step
      refine wpStill_nil ?_
      go_upto_region 6 with (fail)
      have HIb : Hid (ItB (((X.setCell ⟨ib, 1 + (d + 1) * 2, none⟩ (.iface kt (.pointer (some ⟨kq, 0, none⟩)))).setCell ⟨ib, 1 + (d + 1) * 2 + 1, none⟩ (.int .i64 0)).drew.drew) ib mb ((ar1.setIfInBounds (1 + (d + 1) * 2) (.iface kt (.pointer (some ⟨kq, 0, none⟩)))).setIfInBounds (1 + (d + 1) * 2 + 1) (.int .i64 0)) (d : Int)) := (HIa.out.setNode hd2 (.iface kt (.pointer (some ⟨kq, 0, none⟩)))).setIdx hd2 0
      have HBb : Hid (But (· = ib) w (((X.setCell ⟨ib, 1 + (d + 1) * 2, none⟩ (.iface kt (.pointer (some ⟨kq, 0, none⟩)))).setCell ⟨ib, 1 + (d + 1) * 2 + 1, none⟩ (.int .i64 0)).drew.drew)) := ((HBa.out.setCell (.inl rfl) _).setCell (.inl rfl) _).drew.drew
      clear cd cn cm fn fm hc1 hn0 ci
      generalize (((X.setCell ⟨ib, 1 + (d + 1) * 2, none⟩ (.iface kt (.pointer (some ⟨kq, 0, none⟩)))).setCell ⟨ib, 1 + (d + 1) * 2 + 1, none⟩ (.int .i64 0)).drew.drew) = Y at HIb HBb ⊢
      have cd := cell_at HIb.out.1 HIb.out.2.2.2.1
      have fd : Y.frozen? ⟨ib, 65, none⟩ = false := frozen_of_row _ _ _ _ _ HIb.out.1
      go_wp2_with fail
      go_roundg r
      case measure => omega
      case rel =>
        obtain ⟨g1, g2⟩ := down_rel (x := N1) HI2.out.2.1 hd2 HA1.out rfl HV2.out HL2.out HBN.out HK.out HKD.out (u := .int .i64 0) (z := (d : Int) + 1)
        rw [HKL.out] at g1
        have hdr : (ess (kids.drop (N1 + 1))).flatten = [] := by rw [List.drop_eq_nil_of_le (by have := HN1.out; omega)]; rfl
        have hks := kid_split HKD.out
        rw [hdr, List.append_nil] at hks
        refine ⟨d + 1, r, kd.1, bef ++ (ess (kids.take N1)).flatten, kd.2, (ess (kids.drop (N1 + 1))).flatten ++ aft, _, rfl, ?_, by have := HRD2.out; omega, HIb.out.setDep ((d : Int) + 1), ?_, ?_, ?_, HBb.out.setCell (.inl rfl) _⟩
        · rw [HBE2.out, hks]
          simp only [List.length_append]
          omega
        · rw [HKL.out]; exact g1
        · rw [HKL.out] at g2; rw [HKL.out]; exact g2
        · rw [HALL2.out, hdr, hks]
          simp only [List.append_assoc, List.nil_append]
end Go.Proofs.Ytefigjdebakccaa
