/- An iterator over a sorted map: to the next pair. -/
import Derived.Test.YtefigjdebakccaaItL
namespace Go.Proofs.Ytefigjdebakccaa
open Go.RowKit

/-- the place t, if there is one -/
def pos (all : List (Int × Int)) (t : Nat) : Option Nat := if t < all.length then some t else none
theorem pos_some {all : List (Int × Int)} {t : Nat} (h : t < all.length) : pos all t = some t := if_pos h
theorem pos_none {all : List (Int × Int)} : pos all all.length = none := if_neg (Nat.lt_irrefl _)
/-- on the way to the next pair: k levels are left -/
def Nx (w : World) (ib mb : Nat) (all : List (Int × Int)) (T : Nat) (k : Nat) (wr : World) : Prop :=
  But (· = ib) w wr ∧ ∃ arr : Array Value, (k = 0 ∧ ItB wr ib mb arr (-1) ∧ T = all.length) ∨
    ∃ (d : Nat) (v : Value) (bef aft : List (Int × Int)) (x : Nat), k = d + 1 ∧ ItB wr ib mb arr (d : Int) ∧ arr[1 + d * 2]? = some v ∧ arr[1 + d * 2 + 1]? = some (.int .i64 (x : Int)) ∧
      ((∃ es, d ≤ 31 ∧ Low w arr d 0 v bef es aft ∧ x ≤ es.length ∧ all = bef ++ es ++ aft ∧ T = if x < es.length then bef.length + (x + 1) else bef.length + es.length) ∨
       ∃ (r : Nat) (kids : List Kid), r + 1 + d ≤ 31 ∧ BranN w v kids ∧ (∀ kd ∈ kids, SN w r kd.1 kd.2) ∧ x < kids.length ∧ Low w arr d (r + 1) v bef (ess kids).flatten aft ∧ all = bef ++ (ess kids).flatten ++ aft ∧ T = bef.length + (ess (kids.take (x + 1))).flatten.length)
theorem nx_down {w wr : World} {ib mb d r T : Nat} {arr : Array Value} {v : Value} {all bef es aft : List (Int × Int)} (hrd : r + d ≤ 31) (hb : But (· = ib) w wr) (hi : ItB wr ib mb arr (d : Int)) (hl : Low w arr d r v bef es aft) (ha : all = bef ++ es ++ aft) (ht : T = bef.length + es.length) :
    Nx w ib mb all T d (wr.setCell ⟨ib, 65, none⟩ (.int .i64 ((d : Int) - 1))) := by
  refine ⟨hb.setCell (.inl rfl) _, arr.setIfInBounds 65 (.int .i64 ((d : Int) - 1)), ?_⟩
  have hi2 := hi.setDep ((d : Int) - 1)
  have hsz := hi.2.1
  cases d with
  | zero =>
    obtain ⟨h1, h2, h3⟩ := hl
    refine .inl ⟨rfl, by simpa using hi2, ?_⟩
    rw [ht, ha, h1, h2]
    simp
  | succ d =>
    have e : ((d + 1 : Nat) : Int) - 1 = (d : Int) := by omega
    rw [e] at hi2 ⊢
    obtain ⟨vk, kids, x, kd, befk, aftk, h1, h2, h3, h4, h5, h6, h7, h8, h9, h10⟩ := hl
    refine .inr ⟨d, vk, befk, aftk, x, rfl, hi2, by rw [Array.getElem?_setIfInBounds_ne (by omega)]; exact h1, by rw [Array.getElem?_setIfInBounds_ne (by omega)]; exact h2, .inr ⟨r, kids, by omega, h3, h4, (List.getElem?_eq_some_iff.1 h5).1, h10.arr fun j hj => Array.getElem?_setIfInBounds_ne (by omega), ?_, ?_⟩⟩
    · rw [ha, h8, h9, h7, kid_split h5]; simp only [List.append_assoc]
    · rw [ht, h8, h7, kid_take h5]; simp only [List.length_append]; omega

theorem Nx.drew {w wr : World} {ib mb T k : Nat} {all : List (Int × Int)} (n : Nx w ib mb all T k wr) : Nx w ib mb all T k wr.drew := ⟨n.1.drew, n.2⟩
/-- a cell set to what it is -/
theorem set_idle {a : Array Value} {i : Nat} {v : Value} (h : a[i]? = some v) : a.setIfInBounds i v = a := by
  apply Array.ext'
  obtain ⟨hi, he⟩ := Array.getElem?_eq_some_iff.1 h
  rw [Array.toList_setIfInBounds]
  refine List.ext_getElem? fun j => ?_
  by_cases hj : i = j
  · subst hj
    rw [List.getElem?_set_self (by simpa using hi)]
    simpa using h.symm
  · rw [List.getElem?_set_ne hj]
/-- the iterator goes down to the next child -/
theorem go_child {w Y : World} {ib mb d r x T : Nat} {a0 arr3 : Array Value} {kids : List Kid} {kd : Kid} {all bef aft : List (Int × Int)} (hrd : r + 1 + d ≤ 31) (h0 : w.heap[ib]? = some (.cells a0 133 (0, 0))) (hb : But (· = ib) w Y)
    (hi : ItB Y ib mb arr3 ((d + 1 : Nat) : Int)) (hn : arr3[1 + (d + 1) * 2]? = some kd.1) (hl : Low w arr3 (d + 1) r kd.1 (bef ++ (ess (kids.take x)).flatten) kd.2 ((ess (kids.drop (x + 1))).flatten ++ aft)) (hk : kids[x]? = some kd) (hne : kd.2 ≠ [])
    (ha : all = bef ++ (ess kids).flatten ++ aft) (ht : T = bef.length + (ess (kids.take x)).flatten.length) :
    Calls Try.prog 83 #[.pointer (some ⟨ib, 0, none⟩)] Y fun e w' => e = .returned (.tuple #[]) ∧ But (· = ib) w w' ∧ St w' ib mb all (pos all T) := by
  have hs := hb.stay133 h0
  have ha2 : all = (bef ++ (ess (kids.take x)).flatten) ++ kd.2 ++ ((ess (kids.drop (x + 1))).flatten ++ aft) := by rw [ha, kid_split hk]; simp only [List.append_assoc]
  refine (first_w Y ib mb arr3 (d + 1) r kd.1 all _ kd.2 _ (by omega) hi hn (hl.stay hs) ha2).mono ?_
  rintro e w' ⟨rfl, hb2, hst⟩
  refine ⟨rfl, hb.trans hb2, ?_⟩
  have hp := List.length_pos_iff.2 hne
  rw [pos_some (by rw [ha2, ht]; simp only [List.length_append]; omega), ht, ← List.length_append]
  exact hst


set_option maxRecDepth 100000 in
set_option maxHeartbeats 3200000 in
theorem next_w (w : World) (ib mb : Nat) (arr : Array Value) (d : Nat) (v : Value) (all bef es aft : List (Int × Int)) (x T : Nat) (hrd : d ≤ 31) (hi : ItB w ib mb arr (d : Int)) (hv : arr[1 + d * 2]? = some v) (hx : arr[1 + d * 2 + 1]? = some (.int .i64 (x : Int)))
    (hl : Low w arr d 0 v bef es aft) (hxl : x ≤ es.length) (ha : all = bef ++ es ++ aft) (hT : T = (if x < es.length then bef.length + (x + 1) else bef.length + es.length)) :
    Calls Try.prog 82 #[.pointer (some ⟨ib, 0, none⟩)] w fun e w' => e = .returned (.tuple #[]) ∧ But (· = ib) w w' ∧ St w' ib mb all (pos all T) := by
  have H0 := Lib.hid hi.1
  have HNX : Hid (Nx w ib mb all T (d + 1) w) := ⟨But.refl _ w, arr, .inr ⟨d, v, bef, aft, x, rfl, hi, hv, hx, .inl ⟨es, hrd, hl, hxl, ha, hT⟩⟩⟩
  clear hi hv hl hrd hx hxl ha hT
  go_enter Try.func82, Try.ntmps82
  go_wp2_with fail
  go_loopg [] (d + 1) (fun k wr => Nx w ib mb all T k wr)
  case atStart => exact HNX.out
  case round =>
    obtain ⟨hb, arr, ⟨rfl, hi, ht⟩ | ⟨d, v, bef, aft, x, rfl, hi, hv, hx, hcase⟩⟩ := hrel
    · have HI := Lib.hid hi
      have HB := Lib.hid hb
      have HT := Lib.hid ht
      have cd := cell_at hi.1 hi.2.2.2.1
      clear hi hb ht
      go_wp2_with fail
      refine bodyPost_end (results_none rfl _ _ _) rfl ?_
      exact ⟨rfl, HB.out, arr, .inl ⟨HI.out, by rw [HT.out]; exact pos_none⟩⟩
    · have hlk := hi.2.2.2.2
      have hd32 : d < 32 := by
        rcases hcase with ⟨_, h, _⟩ | ⟨_, _, h, _⟩
        · omega
        · omega
      have cd := cell_at hi.1 hi.2.2.2.1
      have cv := cell_at hi.1 hv
      have cx := cell_at hi.1 hx
      have fd : wr.frozen? ⟨ib, 65, none⟩ = false := frozen_of_row _ _ _ _ _ hi.1
      have fx : wr.frozen? ⟨ib, 1 + d * 2 + 1, none⟩ = false := frozen_of_row _ _ _ _ _ hi.1
      have hd0 : (0 : Int) ≤ (d : Int) := by omega
      have hd1 : (d : Int) < 32 := by omega
      have hge : decide ((0 : Int) ≤ (d : Int)) = true := by simp
      have hwd : IntKind.i64.wrap ((d : Int) - 1) = (d : Int) - 1 := by rw [IntKind.wrap_i64]; omega
      have HI := Lib.hid hi
      have HV := Lib.hid hv
      have HX := Lib.hid hx
      have HB := Lib.hid hb
      clear hi hv hx hb hlk
      rcases hcase with ⟨es, hrd, hl, hxl, ha, ht⟩ | ⟨r, kids, hrd, hB, hk, hxl, hl, ha, ht⟩
      · have HL := Lib.hid hl
        have HT := Lib.hid ht
        have HALL := Lib.hid ha
        obtain ⟨b, g, q, c, ar, rfl, h7, -, -, hpos, hle⟩ := LeafN.cells hl.sn
        have hbb := HB.out.at h7 (ne133 H0.out h7 (by decide))
        have hsl := cell_at (j := 0) hbb rfl
        have t1 := as138_138 b
        have t2 := as138_147 b
        obtain ⟨y, hy⟩ : ∃ y, y = x + 1 := ⟨_, rfl⟩
        have hw1 : IntKind.i64.wrap ((x : Int) + 1) = (y : Int) := by rw [IntKind.wrap_i64]; omega
        have hw1b : (x : Int) + 1 = (y : Int) := by omega
        have hw1c : IntKind.i64.wrap (y : Int) = (y : Int) := by rw [IntKind.wrap_i64]; omega
        have hw2 : IntKind.i64.wrap ((es.length : Int) - 1) = (es.length : Int) - 1 := by rw [IntKind.wrap_i64]; omega
        have HDOWN : Hid (es.length ≤ x + 1 → Nx w ib mb all T d (wr.setCell ⟨ib, 65, none⟩ (.int .i64 ((d : Int) - 1)))) := fun hle2 =>
          nx_down (by omega) HB.out HI.out HL.out HALL.out (by rw [HT.out]; split <;> omega)
        have HUP : Hid (x + 1 < es.length → But (· = ib) w (wr.setCell ⟨ib, 1 + d * 2 + 1, none⟩ (.int .i64 (y : Int))) ∧ St (wr.setCell ⟨ib, 1 + d * 2 + 1, none⟩ (.int .i64 (y : Int))) ib mb all (pos all T)) := fun hlt => by
          have h9 := st_leaf (x := y) (by omega) H0.out HB.out HI.out HV.out HL.out (by omega) HALL.out
          have e9 : T = bef.length + y := by rw [HT.out, if_pos (by omega)]; omega
          rw [pos_some (by rw [e9, HALL.out]; simp only [List.length_append]; omega), e9]
          exact h9
        have cond1 : x + 1 < es.length → decide ((x : Int) < (es.length : Int) - 1) = true := fun h => by simp; omega
        have cond2 : ¬ x + 1 < es.length → decide ((x : Int) < (es.length : Int) - 1) = false := fun h => by simp; omega
        by_cases hlt : x + 1 < es.length
        · have h1 := cond1 hlt
          clear h7 hbb cond1 cond2 hl ht ha hy
          go_upto_region 2 with (fail)
          refine region_tail 8 (by kernel_rfl) (by kernel_rfl) ?_
          simp only [List.take_succ_cons, List.take_zero, List.drop_succ_cons, List.drop_zero]
          repeat still_step
          refine wpStill_nil ?_
          go_upto_region 6 with (fail)
          refine region_tail 10 (by kernel_rfl) (by kernel_rfl) ?_
          simp only [List.take_succ_cons, List.take_zero, List.drop_succ_cons, List.drop_zero]
          repeat still_step
          refine wpStill_nil ?_
          go_wp2_with fail
          refine bodyPost_ret (results_none rfl _ _ _) rfl ?_
          exact ⟨rfl, st_drew (st_drew (HUP.out hlt))⟩
        · have h1 := cond2 hlt
          clear h7 hbb cond1 cond2 hl ht ha hy hw1 hw1b hw1c
          go_upto_region 2 with (fail)
          refine region_tail 8 (by kernel_rfl) (by kernel_rfl) ?_
          simp only [List.take_succ_cons, List.take_zero, List.drop_succ_cons, List.drop_zero]
          repeat still_step
          refine wpStill_nil ?_
          go_upto_region 6 with (fail)
          refine region_tail 10 (by kernel_rfl) (by kernel_rfl) ?_
          simp only [List.take_succ_cons, List.take_zero, List.drop_succ_cons, List.drop_zero]
          repeat still_step
          refine wpStill_nil ?_
          go_wp2_with fail
          go_roundg d
          case measure => omega
          case rel => exact (HDOWN.out (by omega)).drew.drew
      · have HL := Lib.hid hl
        have HT := Lib.hid ht
        have HALL := Lib.hid ha
        have HBN := Lib.hid hB
        have HK := Lib.hid hk
        have HRD := Lib.hid hrd
        obtain ⟨b, g, q, c, ar, rfl, h7, h9, h12, hpos, hle⟩ := hB.cells
        have hbb := HB.out.at h7 (ne133 H0.out h7 (by decide))
        have hsl := cell_at (j := 0) hbb rfl
        have t1 := as147_138 b
        have t2 := as147_147 b
        have H7 := Lib.hid (And.intro h7 (And.intro h9 h12))
        obtain ⟨y, hy⟩ : ∃ y, y = x + 1 := ⟨_, rfl⟩
        have hw1 : IntKind.i64.wrap ((x : Int) + 1) = (y : Int) := by rw [IntKind.wrap_i64]; omega
        have hw1b : (x : Int) + 1 = (y : Int) := by omega
        have hw1c : IntKind.i64.wrap (y : Int) = (y : Int) := by rw [IntKind.wrap_i64]; omega
        have hw2 : IntKind.i64.wrap ((kids.length : Int) - 1) = (kids.length : Int) - 1 := by rw [IntKind.wrap_i64]; omega
        have cond1 : x + 1 < kids.length → decide ((x : Int) < (kids.length : Int) - 1) = true := fun h => by simp; omega
        have cond2 : ¬ x + 1 < kids.length → decide ((x : Int) < (kids.length : Int) - 1) = false := fun h => by simp; omega
        have HDOWN : Hid (¬ x + 1 < kids.length → Nx w ib mb all T d (wr.setCell ⟨ib, 65, none⟩ (.int .i64 ((d : Int) - 1)))) := fun hle2 =>
          nx_down (by have := HRD.out; omega) HB.out HI.out HL.out HALL.out (by rw [HT.out, List.take_of_length_le (by omega)])
        by_cases hlt : x + 1 < kids.length
        · have h1 := cond1 hlt
          have hyk : y < kids.length := by omega
          have hyx : x + 1 = y := by omega
          have HY := Lib.hid hyx
          obtain ⟨kd, hkd⟩ : ∃ kd, kids[y]? = some kd := ⟨_, List.getElem?_eq_getElem hyk⟩
          have hsn := hk kd (List.mem_of_getElem? hkd)
          obtain ⟨kt, kq, hkl⟩ := hsn.ptr
          have HKD := Lib.hid hkd
          have HKL := Lib.hid hkl
          have HNE := Lib.hid hsn.ne
          clear h7 h9 h12 hbb cond1 cond2 hl ht ha hy hB hk hkd hkl hsn hrd hyx hxl hlt
          go_upto_region 2 with (fail)
          refine region_tail 8 (by kernel_rfl) (by kernel_rfl) ?_
          simp only [List.take_succ_cons, List.take_zero, List.drop_succ_cons, List.drop_zero]
          repeat still_step
          refine wpStill_nil ?_
          go_upto_region 10 with (fail)
          refine region_tail 10 (by kernel_rfl) (by kernel_rfl) ?_
          simp only [List.take_succ_cons, List.take_zero, List.drop_succ_cons, List.drop_zero]
          repeat still_step
          refine wpStill_nil ?_
          go_upto_region 12 with (fail)
          have HBa : Hid (But (· = ib) w (wr.setCell ⟨ib, 1 + d * 2 + 1, none⟩ (.int .i64 (y : Int))).drew.drew) := (HB.out.setCell (.inl rfl) _).drew.drew
          have HIa : Hid (ItB (wr.setCell ⟨ib, 1 + d * 2 + 1, none⟩ (.int .i64 (y : Int))).drew.drew ib mb (arr.setIfInBounds (1 + d * 2 + 1) (.int .i64 (y : Int))) (d : Int)) := HI.out.setIdx hd32 (y : Int)
          clear cd cv cx fd fx hsl h1 hw1 hw1b hw1c
          generalize (wr.setCell ⟨ib, 1 + d * 2 + 1, none⟩ (.int .i64 (y : Int))).drew.drew = X at HIa HBa ⊢
          obtain ⟨ar1, har1⟩ : ∃ ar1, ar1 = arr.setIfInBounds (1 + d * 2 + 1) (.int .i64 (y : Int)) := ⟨_, rfl⟩
          rw [← har1] at HIa
          have HA1 := Lib.hid har1
          have ci := cell_at (j := 1 + d * 2 + 1) (v := .int .i64 (y : Int)) HIa.out.1 (by rw [har1, Array.getElem?_setIfInBounds_self_of_lt (by have := HI.out.2.1; omega)])
          clear har1
          have hbb := HBa.out.at H7.out.1 (ne133 H0.out H7.out.1 (by decide))
          have hbn := HBa.out.at H7.out.2.1 (ne133 H0.out H7.out.2.1 (by decide))
          have hk0 := H7.out.2.2 y kd HKD.out
          rw [HKL.out] at hk0
          have hc1 := cell_at (j := 0) hbb rfl
          have hn0 := cell_at hbn hk0
          have cd := cell_at HIa.out.1 HIa.out.2.2.2.1
          have hd2 : d + 1 < 32 := by have := HRD.out; omega
          obtain ⟨un, hun⟩ : ∃ u, ar1[1 + (d + 1) * 2]? = some u := ⟨_, Array.getElem?_eq_getElem (by have := HIa.out.2.1; omega)⟩
          obtain ⟨xn, hxn⟩ := HIa.out.2.2.2.2 (d + 1) hd2
          have HXN := Lib.hid hxn
          have cn := cell_at HIa.out.1 hun
          have fn : X.frozen? ⟨ib, 1 + (d + 1) * 2, none⟩ = false := frozen_of_row _ _ _ _ _ HIa.out.1
          have hd3 : (d : Int) + 1 < 32 := by omega
          have hd4 : (0 : Int) ≤ (d : Int) + 1 := by omega
          have hdt : ((d : Int) + 1).toNat = d + 1 := by omega
          have hwp : IntKind.i64.wrap ((d : Int) + 1) = (d : Int) + 1 := by rw [IntKind.wrap_i64]; omega
          have hpos' : (y : Int) < (kids.length : Int) := by omega
          have hpos0 : (0 : Int) ≤ (y : Int) := by omega
          clear hbb hbn hun hxn hk0
          refine region_tail 21 (by kernel_rfl) (by kernel_rfl) ?_
          simp only [List.take_succ_cons, List.take_zero, List.drop_succ_cons, List.drop_zero]
          repeat still_step
          refine wpStill_nil ?_
          go_upto_region 13 with (fail)
          have HIb : Hid (ItB (X.setCell ⟨ib, 1 + (d + 1) * 2, none⟩ (.iface kt (.pointer (some ⟨kq, 0, none⟩)))).drew ib mb (ar1.setIfInBounds (1 + (d + 1) * 2) (.iface kt (.pointer (some ⟨kq, 0, none⟩)))) (d : Int)) := HIa.out.setNode hd2 (.iface kt (.pointer (some ⟨kq, 0, none⟩)))
          have HBb2 : Hid (But (· = ib) w (X.setCell ⟨ib, 1 + (d + 1) * 2, none⟩ (.iface kt (.pointer (some ⟨kq, 0, none⟩)))).drew) := (HBa.out.setCell (.inl rfl) _).drew
          clear cd cn fn ci hc1 hn0
          generalize (X.setCell ⟨ib, 1 + (d + 1) * 2, none⟩ (.iface kt (.pointer (some ⟨kq, 0, none⟩)))).drew = Y at HIb HBb2 ⊢
          have cd := cell_at HIb.out.1 HIb.out.2.2.2.1
          have fd : Y.frozen? ⟨ib, 65, none⟩ = false := frozen_of_row _ _ _ _ _ HIb.out.1
          go_wp2_with fail
          have HIc : Hid (ItB (Y.setCell ⟨ib, 65, none⟩ (.int .i64 ((d : Int) + 1))) ib mb ((ar1.setIfInBounds (1 + (d + 1) * 2) (.iface kt (.pointer (some ⟨kq, 0, none⟩)))).setIfInBounds 65 (.int .i64 ((d : Int) + 1))) ((d + 1 : Nat) : Int)) := HIb.out.setDep ((d : Int) + 1)
          have HBc : Hid (But (· = ib) w (Y.setCell ⟨ib, 65, none⟩ (.int .i64 ((d : Int) + 1)))) := HBb2.out.setCell (.inl rfl) _
          obtain ⟨g1, g2⟩ := down_rel (x := y) (u := .int .i64 xn) (z := (d : Int) + 1) HI.out.2.1 hd2 HA1.out rfl HV.out HL.out HBN.out HK.out HKD.out
          rw [HKL.out] at g1 g2
          rw [set_idle (a := ar1.setIfInBounds (1 + (d + 1) * 2) (.iface kt (.pointer (some ⟨kq, 0, none⟩)))) (i := 1 + (d + 1) * 2 + 1) (v := .int .i64 xn) (by rw [Array.getElem?_setIfInBounds_ne (by omega)]; exact HXN.out)] at g1 g2
          refine (go_child (x := y) (kids := kids) (kd := kd) (d := d) (r := r) (bef := bef) (aft := aft) (T := T) HRD.out H0.out HBc.out HIc.out (by rw [HKL.out]; exact g1) (by rw [HKL.out]; exact g2) HKD.out HNE.out HALL.out (by rw [HT.out, HY.out])).mono ?_
          rintro e w' ⟨rfl, hb', hst⟩
          have HST := Lib.hid (And.intro hb' hst)
          clear hb' hst g1 g2
          go_wp2_with fail
          refine bodyPost_ret (results_none rfl _ _ _) rfl ?_
          exact ⟨rfl, HST.out⟩
        · have h1 := cond2 hlt
          clear h7 h9 h12 hbb cond1 cond2 hl ht ha hy hB hk hrd hw1 hw1b hw1c
          go_upto_region 2 with (fail)
          refine region_tail 8 (by kernel_rfl) (by kernel_rfl) ?_
          simp only [List.take_succ_cons, List.take_zero, List.drop_succ_cons, List.drop_zero]
          repeat still_step
          refine wpStill_nil ?_
          go_upto_region 10 with (fail)
          refine region_tail 10 (by kernel_rfl) (by kernel_rfl) ?_
          simp only [List.take_succ_cons, List.take_zero, List.drop_succ_cons, List.drop_zero]
          repeat still_step
          refine wpStill_nil ?_
          go_wp2_with fail
          go_roundg d
          case measure => omega
          case rel => exact (HDOWN.out hlt).drew.drew
end Go.Proofs.Ytefigjdebakccaa
