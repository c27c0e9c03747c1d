/- An iterator over a sorted map: Done, First, Last, Seek, Next, Prev, Iterator. -/
import Derived.Test.YtefigjdebakccaaItS
namespace Go.Proofs.Ytefigjdebakccaa
open Go.RowKit

set_option maxRecDepth 100000 in
set_option maxHeartbeats 400000 in
theorem done_c (ib : Nat) (d : Int) (w : World) (hc : w.cell? ⟨ib, 65, none⟩ = some (.int .i64 d)) :
    Calls Try.prog 72 #[.pointer (some ⟨ib, 0, none⟩)] w fun e w' => e = .returned (.bool (d == -1)) ∧ w = w' := by
  go_enter Try.func72, Try.ntmps72
  go_wp2
  go_ret
  exact ⟨rfl, rfl⟩
theorem done_w {w : World} {ib mb : Nat} {all : List (Int × Int)} {p : Option Nat} (n : St w ib mb all p) :
    Calls Try.prog 72 #[.pointer (some ⟨ib, 0, none⟩)] w fun e w' => e = .returned (.bool p.isNone) ∧ w = w' := by
  obtain ⟨arr, ⟨h1, h2⟩ | ⟨d, v, bef, es, aft, x, h1, h2, h3, h4, h5, h6, h7, h8⟩⟩ := n
  · refine (done_c ib (-1) w (cell_at h1.1 h1.2.2.2.1)).mono ?_
    rintro e w' ⟨rfl, rfl⟩
    exact ⟨by rw [h2]; rfl, rfl⟩
  · refine (done_c ib (d : Int) w (cell_at h2.1 h2.2.2.2.1)).mono ?_
    rintro e w' ⟨rfl, rfl⟩
    refine ⟨?_, rfl⟩
    have e2 : ((d : Int) == -1) = false := by simp only [beq_eq_false_iff_ne, ne_eq]; omega
    rw [h8, e2]
    rfl
theorem St.itb {w : World} {ib mb : Nat} {all : List (Int × Int)} {p : Option Nat} (n : St w ib mb all p) : ∃ arr dd, ItB w ib mb arr dd := by
  obtain ⟨arr, ⟨h1, h2⟩ | ⟨d, v, bef, es, aft, x, h1, h2, h3⟩⟩ := n
  · exact ⟨arr, _, h1⟩
  · exact ⟨arr, _, h2⟩
theorem St.lt {w : World} {ib mb i : Nat} {all : List (Int × Int)} (n : St w ib mb all (some i)) : i < all.length := by
  obtain ⟨arr, ⟨h1, h2⟩ | ⟨d, v, bef, es, aft, x, h1, h2, h3, h4, h5, h6, h7, h8⟩⟩ := n
  · cases h2
  · simp only [Option.some.injEq] at h8
    rw [h7, h8]
    simp only [List.length_append]
    omega
/-- the pair at which an iterator stands -/
theorem St.head {w : World} {ib mb i : Nat} {all : List (Int × Int)} (n : St w ib mb all (some i)) :
    ∃ (arr : Array Value) (d : Nat) (v : Value) (bef es aft : List (Int × Int)) (x : Nat) (y : Int × Int), d ≤ 31 ∧ ItB w ib mb arr (d : Int) ∧ arr[1 + d * 2]? = some v ∧ arr[1 + d * 2 + 1]? = some (.int .i64 (x : Int)) ∧ Low w arr d 0 v bef es aft ∧ x < es.length ∧ all = bef ++ es ++ aft ∧ i = bef.length + x ∧ es[x]? = some y ∧ all[i]? = some y := by
  obtain ⟨arr, ⟨h1, h2⟩ | ⟨d, v, bef, es, aft, x, h1, h2, h3, h4, h5, h6, h7, h8⟩⟩ := n
  · cases h2
  · simp only [Option.some.injEq] at h8
    refine ⟨arr, d, v, bef, es, aft, x, es[x], h1, h2, h3, h4, h5, h6, h7, h8, List.getElem?_eq_getElem h6, ?_⟩
    rw [h7, h8, List.append_assoc, List.getElem?_append_right (by omega), show bef.length + x - bef.length = x by omega, List.getElem?_append_left h6]
    exact List.getElem?_eq_getElem h6
theorem stay_heap {w W : World} (h : W.heap = w.heap) : Stay w W := fun b c t hb _ => by rw [h]; exact hb
theorem assert138 (p : Nat) (W : World) : Sem.run Try.prog (Instr.typeAssert (Value.iface 138 (Value.pointer (some { block := p, off := 0 }))) 120 138 false) W = .ok (.pointer (some ⟨p, 0, none⟩)) W := by kernel_rfl


set_option maxRecDepth 100000 in
set_option maxHeartbeats 400000 in
theorem inext_none {w : World} {ib mb : Nat} {all : List (Int × Int)} (n : St w ib mb all none) :
    Calls Try.prog 73 #[.pointer (some ⟨ib, 0, none⟩)] w fun e w' => e = .returned (.tuple #[.int .i64 0, .int .i64 0, .bool false]) ∧ w = w' := by
  have HD := Lib.hid (done_w n)
  clear n
  go_enter Try.func73, Try.ntmps73
  go_wp2_with fail
  refine HD.out.mono ?_
  rintro e w' ⟨rfl, rfl⟩
  go_wp2_with fail
  refine bodyPost_ret (results_tmp3 rfl _ _ _) rfl ?_
  exact ⟨rfl, rfl⟩
theorem next_at {w : World} {ib mb i : Nat} {all : List (Int × Int)} (n : St w ib mb all (some i)) (W : World) (hb : But (· = ib) w W) (hW : W.heap = w.heap) :
    Calls Try.prog 82 #[.pointer (some ⟨ib, 0, none⟩)] W fun e w' => e = .returned (.tuple #[]) ∧ But (· = ib) w w' ∧ St w' ib mb all (pos all (i + 1)) := by
  obtain ⟨arr, d, v, bef, es, aft, x, y, h1, h2, h3, h4, h5, h6, h7, h8, h9, h10⟩ := n.head
  refine (next_w W ib mb arr d v all bef es aft x (i + 1) h1 ⟨by rw [hW]; exact h2.1, h2.2⟩ h3 h4 (h5.stay (stay_heap hW)) (Nat.le_of_lt h6) h7 (by rw [if_pos h6, h8]; omega)).mono ?_
  rintro e w' ⟨rfl, hb2, hs⟩
  exact ⟨rfl, hb.trans hb2, hs⟩
set_option maxRecDepth 100000 in
set_option maxHeartbeats 3200000 in
theorem inext_some {w : World} {ib mb i : Nat} {all : List (Int × Int)} {y : Int × Int} (n : St w ib mb all (some i)) (hy : all[i]? = some y) :
    Calls Try.prog 73 #[.pointer (some ⟨ib, 0, none⟩)] w fun e w' => e = .returned (.tuple #[.int .i64 y.1, .int .i64 y.2, .bool true]) ∧ But (· = ib) w w' ∧ St w' ib mb all (pos all (i + 1)) := by
  have HD := Lib.hid (done_w n)
  have HN := Lib.hid (next_at n)
  obtain ⟨arr, d, v, bef, es, aft, x, y', h1, h2, h3, h4, h5, h6, h7, h8, h9, h10⟩ := n.head
  rw [hy] at h10
  obtain rfl := Option.some.inj h10
  obtain ⟨b, g, q, c, ar, rfl, h17, h19, h12, hpos, hle⟩ := LeafN.cells h5.sn
  obtain ⟨hk1, hk2⟩ := h12 x y h9
  have hd32 : d < 32 := by omega
  have cd := cell_at h2.1 h2.2.2.2.1
  have cv := cell_at h2.1 h3
  have cx := cell_at h2.1 h4
  have hd0 : (0 : Int) ≤ (d : Int) := by omega
  have hd1 : (d : Int) < 32 := by omega
  have hsl := cell_at (j := 0) h17 rfl
  have ck := cell_at h19 hk1
  have cw := cell_at h19 hk2
  have hx0 : (0 : Int) ≤ (x : Int) := by omega
  have hx1 : (x : Int) < (es.length : Int) := by omega
  have t1 := assert138 b
  clear n h1 h2 h3 h4 h5 h7 h8 h9 h10 h17 h19 h12 hk1 hk2 hy
  go_enter Try.func73, Try.ntmps73
  go_wp2_with fail
  refine HD.out.mono ?_
  rintro e w' ⟨rfl, rfl⟩
  go_upto_region 3 with (fail)
  refine region_tail 8 (by kernel_rfl) (by kernel_rfl) ?_
  simp only [List.take_succ_cons, List.take_zero, List.drop_succ_cons, List.drop_zero]
  repeat still_step
  refine wpStill_nil ?_
  go_upto_region 5 with (fail)
  refine region_tail 9 (by kernel_rfl) (by kernel_rfl) ?_
  simp only [List.take_succ_cons, List.take_zero, List.drop_succ_cons, List.drop_zero]
  repeat still_step
  refine wpStill_nil ?_
  go_upto_region 6 with (fail)
  refine region_still (by kernel_rfl) (by kernel_rfl) (Veil.out ?_)
  repeat (refine v_step (fun K hK => ?_); go_simp; refine hK _ ?_; clear hK K)
  refine v_nil ⟨?_⟩
  go_wp2_with fail
  refine (HN.out _ (But.refl (· = ib) w).drew.drew.drew rfl).mono ?_
  rintro e w' ⟨rfl, hp⟩
  have HP := Lib.hid hp
  clear hp
  go_wp2_with fail
  refine bodyPost_ret (results_tmp3 rfl _ _ _) rfl ?_
  exact ⟨rfl, HP.out⟩


set_option maxRecDepth 100000 in
set_option maxHeartbeats 400000 in
theorem iprev_none {w : World} {ib mb : Nat} {all : List (Int × Int)} (n : St w ib mb all none) :
    Calls Try.prog 76 #[.pointer (some ⟨ib, 0, none⟩)] w fun e w' => e = .returned (.tuple #[.int .i64 0, .int .i64 0, .bool false]) ∧ w = w' := by
  have HD := Lib.hid (done_w n)
  clear n
  go_enter Try.func76, Try.ntmps76
  go_wp2_with fail
  refine HD.out.mono ?_
  rintro e w' ⟨rfl, rfl⟩
  go_wp2_with fail
  refine bodyPost_ret (results_tmp3 rfl _ _ _) rfl ?_
  exact ⟨rfl, rfl⟩
theorem prev_at {w : World} {ib mb i : Nat} {all : List (Int × Int)} (n : St w ib mb all (some i)) (W : World) (hb : But (· = ib) w W) (hW : W.heap = w.heap) :
    Calls Try.prog 85 #[.pointer (some ⟨ib, 0, none⟩)] W fun e w' => e = .returned (.tuple #[]) ∧ But (· = ib) w w' ∧ St w' ib mb all (ppos i) := by
  obtain ⟨arr, d, v, bef, es, aft, x, y, h1, h2, h3, h4, h5, h6, h7, h8, h9, h10⟩ := n.head
  refine (prev_w W ib mb arr d v all bef es aft x i h1 ⟨by rw [hW]; exact h2.1, h2.2⟩ h3 h4 (h5.stay (stay_heap hW)) (Nat.le_of_lt h6) h7 h8).mono ?_
  rintro e w' ⟨rfl, hb2, hs⟩
  exact ⟨rfl, hb.trans hb2, hs⟩
set_option maxRecDepth 100000 in
set_option maxHeartbeats 3200000 in
theorem iprev_some {w : World} {ib mb i : Nat} {all : List (Int × Int)} {y : Int × Int} (n : St w ib mb all (some i)) (hy : all[i]? = some y) :
    Calls Try.prog 76 #[.pointer (some ⟨ib, 0, none⟩)] w fun e w' => e = .returned (.tuple #[.int .i64 y.1, .int .i64 y.2, .bool true]) ∧ But (· = ib) w w' ∧ St w' ib mb all (ppos i) := by
  have HD := Lib.hid (done_w n)
  have HN := Lib.hid (prev_at n)
  obtain ⟨arr, d, v, bef, es, aft, x, y', h1, h2, h3, h4, h5, h6, h7, h8, h9, h10⟩ := n.head
  rw [hy] at h10
  obtain rfl := Option.some.inj h10
  obtain ⟨b, g, q, c, ar, rfl, h17, h19, h12, hpos, hle⟩ := LeafN.cells h5.sn
  obtain ⟨hk1, hk2⟩ := h12 x y h9
  have hd32 : d < 32 := by omega
  have cd := cell_at h2.1 h2.2.2.2.1
  have cv := cell_at h2.1 h3
  have cx := cell_at h2.1 h4
  have hd0 : (0 : Int) ≤ (d : Int) := by omega
  have hd1 : (d : Int) < 32 := by omega
  have hsl := cell_at (j := 0) h17 rfl
  have ck := cell_at h19 hk1
  have cw := cell_at h19 hk2
  have hx0 : (0 : Int) ≤ (x : Int) := by omega
  have hx1 : (x : Int) < (es.length : Int) := by omega
  have t1 := assert138 b
  clear n h1 h2 h3 h4 h5 h7 h8 h9 h10 h17 h19 h12 hk1 hk2 hy
  go_enter Try.func76, Try.ntmps76
  go_wp2_with fail
  refine HD.out.mono ?_
  rintro e w' ⟨rfl, rfl⟩
  go_upto_region 3 with (fail)
  refine region_tail 8 (by kernel_rfl) (by kernel_rfl) ?_
  simp only [List.take_succ_cons, List.take_zero, List.drop_succ_cons, List.drop_zero]
  repeat still_step
  refine wpStill_nil ?_
  go_upto_region 5 with (fail)
  refine region_tail 9 (by kernel_rfl) (by kernel_rfl) ?_
  simp only [List.take_succ_cons, List.take_zero, List.drop_succ_cons, List.drop_zero]
  repeat still_step
  refine wpStill_nil ?_
  go_upto_region 6 with (fail)
  refine region_still (by kernel_rfl) (by kernel_rfl) (Veil.out ?_)
  repeat (refine v_step (fun K hK => ?_); go_simp; refine hK _ ?_; clear hK K)
  refine v_nil ⟨?_⟩
  go_wp2_with fail
  refine (HN.out _ (But.refl (· = ib) w).drew.drew.drew rfl).mono ?_
  rintro e w' ⟨rfl, hp⟩
  have HP := Lib.hid hp
  clear hp
  go_wp2_with fail
  refine bodyPost_ret (results_tmp3 rfl _ _ _) rfl ?_
  exact ⟨rfl, HP.out⟩


set_option maxRecDepth 100000 in
set_option maxHeartbeats 400000 in
theorem ifirst_e (ib mb : Nat) (w : World) (c0 : w.cell? ⟨ib, 0, none⟩ = some (.pointer (some ⟨mb, 0, none⟩))) (c1 : w.cell? ⟨mb, 1, none⟩ = some .nilIface) (u : Value) (c2 : w.cell? ⟨ib, 65, none⟩ = some u) (f2 : w.frozen? ⟨ib, 65, none⟩ = false) :
    Calls Try.prog 74 #[.pointer (some ⟨ib, 0, none⟩)] w fun e w' => e = .returned (.tuple #[]) ∧ w' = w.setCell ⟨ib, 65, none⟩ (.int .i64 (-1)) := by
  go_enter Try.func74, Try.ntmps74
  go_wp2
  refine bodyPost_ret (results_none rfl _ _ _) rfl ?_
  exact ⟨rfl, rfl⟩
set_option maxRecDepth 100000 in
set_option maxHeartbeats 800000 in
theorem ifirst_r (ib mb : Nat) (arr : Array Value) (dd : Int) (w : World) (es : List (Int × Int)) (r : Nat) (hr31 : r ≤ 31) (hi : ItB w ib mb arr dd) (u0 cv : Value) (t q : Nat) (hm : w.heap[mb]? = some (.cells #[u0, .iface t (.pointer (some ⟨q, 0, none⟩)), cv] 122 (0, 0))) (hr : SN w r (.iface t (.pointer (some ⟨q, 0, none⟩))) es) :
    Calls Try.prog 74 #[.pointer (some ⟨ib, 0, none⟩)] w fun e w' => e = .returned (.tuple #[]) ∧ But (· = ib) w w' ∧ St w' ib mb es (some 0) := by
  have c1 := cell_at (j := 1) hm rfl
  have c0 := cell_at hi.1 hi.2.2.1
  obtain ⟨x0, hx0⟩ := hi.2.2.2.2 0 (by omega)
  obtain ⟨un, hu0⟩ : ∃ u, arr[1]? = some u := ⟨_, Array.getElem?_eq_getElem (by have := hi.2.1; omega)⟩
  have cn := cell_at hi.1 hu0
  have cx := cell_at hi.1 hx0
  have fn : w.frozen? ⟨ib, 1, none⟩ = false := frozen_of_row _ _ _ _ _ hi.1
  have fx : w.frozen? ⟨ib, 2, none⟩ = false := frozen_of_row _ _ _ _ _ hi.1
  have HI := Lib.hid hi
  have HR := Lib.hid hr
  have HM := Lib.hid hm
  clear hi hr hu0 hx0 hm
  go_enter Try.func74, Try.ntmps74
  go_upto_region 2 with (fail)
  refine region_tail 12 (by kernel_rfl) (by kernel_rfl) ?_
  simp only [List.take_succ_cons, List.take_zero, List.drop_succ_cons, List.drop_zero]
  repeat still_step
  refine wpStill_nil ?_
  go_upto_region 3 with (fail)
  have HIa : Hid (ItB ((w.setCell ⟨ib, 1, none⟩ (.iface t (.pointer (some ⟨q, 0, none⟩)))).setCell ⟨ib, 2, none⟩ (.int .i64 0)).drew ib mb ((arr.setIfInBounds 1 (.iface t (.pointer (some ⟨q, 0, none⟩)))).setIfInBounds 2 (.int .i64 0)) dd) :=
    (HI.out.setNode (j := 0) (by omega) (.iface t (.pointer (some ⟨q, 0, none⟩)))).setIdx (j := 0) (by omega) 0
  have HBa : Hid (But (· = ib) w ((w.setCell ⟨ib, 1, none⟩ (.iface t (.pointer (some ⟨q, 0, none⟩)))).setCell ⟨ib, 2, none⟩ (.int .i64 0)).drew) := (((But.refl (· = ib) w).setCell (.inl rfl) _).setCell (.inl rfl) _).drew
  clear c0 c1 cn cx fn fx
  generalize ((w.setCell ⟨ib, 1, none⟩ (.iface t (.pointer (some ⟨q, 0, none⟩)))).setCell ⟨ib, 2, none⟩ (.int .i64 0)).drew = X at HIa HBa ⊢
  have cd := cell_at HIa.out.1 HIa.out.2.2.2.1
  have fd : X.frozen? ⟨ib, 65, none⟩ = false := frozen_of_row _ _ _ _ _ HIa.out.1
  go_wp2_with fail
  have HIb : Hid (ItB (X.setCell ⟨ib, 65, none⟩ (.int .i64 0)) ib mb (((arr.setIfInBounds 1 (.iface t (.pointer (some ⟨q, 0, none⟩)))).setIfInBounds 2 (.int .i64 0)).setIfInBounds 65 (.int .i64 0)) ((0 : Nat) : Int)) := HIa.out.setDep 0
  have HBb : Hid (But (· = ib) w (X.setCell ⟨ib, 65, none⟩ (.int .i64 0))) := HBa.out.setCell (.inl rfl) _
  have hsz := HI.out.2.1
  refine (first_w (X.setCell ⟨ib, 65, none⟩ (.int .i64 0)) ib mb _ 0 r (.iface t (.pointer (some ⟨q, 0, none⟩))) es [] es [] (by omega) HIb.out ?_ ⟨rfl, rfl, HR.out.stay (HBb.out.stay133 HI.out.1)⟩ (by rw [List.append_nil, List.nil_append])).mono ?_
  · show (((arr.setIfInBounds 1 (.iface t (.pointer (some ⟨q, 0, none⟩)))).setIfInBounds 2 (.int .i64 0)).setIfInBounds 65 (.int .i64 0))[1]? = _
    rw [Array.getElem?_setIfInBounds_ne (by omega), Array.getElem?_setIfInBounds_ne (by omega), Array.getElem?_setIfInBounds_self_of_lt (by omega)]
  rintro e w' ⟨rfl, hb', hst⟩
  have HST : Hid (But (· = ib) w w' ∧ St w' ib mb es (some 0)) := ⟨HBb.out.trans hb', hst⟩
  clear hb' hst
  go_wp2_with fail
  refine bodyPost_end (results_none rfl _ _ _) rfl ?_
  exact ⟨rfl, HST.out⟩
/-- whatever the iterator's state -/
theorem ifirst_w {o k : Nat} {w : World} {ib mb : Nat} {arr : Array Value} {dd : Int} {es : List (Int × Int)} (hk : k < 900) (hi : ItB w ib mb arr dd) (n : SMapAt w mb o k es) :
    Calls Try.prog 74 #[.pointer (some ⟨ib, 0, none⟩)] w fun e w' => e = .returned (.tuple #[]) ∧ But (· = ib) w w' ∧ St w' ib mb es (pos es 0) := by
  obtain ⟨root, cv, h1, h2, h3, ⟨h0, rfl⟩ | ⟨r, m, h4, h5⟩⟩ := n
  · subst h0
    refine (ifirst_e ib mb w (cell_at hi.1 hi.2.2.1) (cell_at h1 rfl) _ (cell_at hi.1 hi.2.2.2.1) (frozen_of_row _ _ _ _ _ hi.1)).mono ?_
    rintro e w' ⟨rfl, rfl⟩
    exact ⟨rfl, (But.refl (· = ib) w).setCell (.inl rfl) _, _, .inl ⟨hi.setDep (-1), rfl⟩⟩
  · have hsn := h4.sn
    obtain ⟨t, q, rfl⟩ := hsn.ptr
    have hp := List.length_pos_iff.2 hsn.ne
    rw [pos_some hp]
    exact ifirst_r ib mb arr dd w es r (by omega) hi _ _ t q h1 hsn


set_option maxRecDepth 100000 in
set_option maxHeartbeats 400000 in
theorem ilast_e (ib mb : Nat) (w : World) (c0 : w.cell? ⟨ib, 0, none⟩ = some (.pointer (some ⟨mb, 0, none⟩))) (c1 : w.cell? ⟨mb, 1, none⟩ = some .nilIface) (u : Value) (c2 : w.cell? ⟨ib, 65, none⟩ = some u) (f2 : w.frozen? ⟨ib, 65, none⟩ = false) :
    Calls Try.prog 75 #[.pointer (some ⟨ib, 0, none⟩)] w fun e w' => e = .returned (.tuple #[]) ∧ w' = w.setCell ⟨ib, 65, none⟩ (.int .i64 (-1)) := by
  go_enter Try.func75, Try.ntmps75
  go_wp2
  refine bodyPost_ret (results_none rfl _ _ _) rfl ?_
  exact ⟨rfl, rfl⟩
set_option maxRecDepth 100000 in
set_option maxHeartbeats 800000 in
theorem ilast_r (ib mb : Nat) (arr : Array Value) (dd : Int) (w : World) (es : List (Int × Int)) (r : Nat) (hr31 : r ≤ 31) (hi : ItB w ib mb arr dd) (u0 cv : Value) (t q : Nat) (hm : w.heap[mb]? = some (.cells #[u0, .iface t (.pointer (some ⟨q, 0, none⟩)), cv] 122 (0, 0))) (hr : SN w r (.iface t (.pointer (some ⟨q, 0, none⟩))) es) :
    Calls Try.prog 75 #[.pointer (some ⟨ib, 0, none⟩)] w fun e w' => e = .returned (.tuple #[]) ∧ But (· = ib) w w' ∧ St w' ib mb es (some (0 + es.length - 1)) := by
  have c1 := cell_at (j := 1) hm rfl
  have c0 := cell_at hi.1 hi.2.2.1
  obtain ⟨x0, hx0⟩ := hi.2.2.2.2 0 (by omega)
  obtain ⟨un, hu0⟩ : ∃ u, arr[1]? = some u := ⟨_, Array.getElem?_eq_getElem (by have := hi.2.1; omega)⟩
  have cn := cell_at hi.1 hu0
  have cx := cell_at hi.1 hx0
  have fn : w.frozen? ⟨ib, 1, none⟩ = false := frozen_of_row _ _ _ _ _ hi.1
  have fx : w.frozen? ⟨ib, 2, none⟩ = false := frozen_of_row _ _ _ _ _ hi.1
  have HI := Lib.hid hi
  have HR := Lib.hid hr
  have HM := Lib.hid hm
  clear hi hr hu0 hx0 hm
  go_enter Try.func75, Try.ntmps75
  go_upto_region 2 with (fail)
  refine region_tail 12 (by kernel_rfl) (by kernel_rfl) ?_
  simp only [List.take_succ_cons, List.take_zero, List.drop_succ_cons, List.drop_zero]
  repeat still_step
  refine wpStill_nil ?_
  go_upto_region 3 with (fail)
  have HIa : Hid (ItB ((w.setCell ⟨ib, 1, none⟩ (.iface t (.pointer (some ⟨q, 0, none⟩)))).setCell ⟨ib, 2, none⟩ (.int .i64 0)).drew ib mb ((arr.setIfInBounds 1 (.iface t (.pointer (some ⟨q, 0, none⟩)))).setIfInBounds 2 (.int .i64 0)) dd) :=
    (HI.out.setNode (j := 0) (by omega) (.iface t (.pointer (some ⟨q, 0, none⟩)))).setIdx (j := 0) (by omega) 0
  have HBa : Hid (But (· = ib) w ((w.setCell ⟨ib, 1, none⟩ (.iface t (.pointer (some ⟨q, 0, none⟩)))).setCell ⟨ib, 2, none⟩ (.int .i64 0)).drew) := (((But.refl (· = ib) w).setCell (.inl rfl) _).setCell (.inl rfl) _).drew
  clear c0 c1 cn cx fn fx
  generalize ((w.setCell ⟨ib, 1, none⟩ (.iface t (.pointer (some ⟨q, 0, none⟩)))).setCell ⟨ib, 2, none⟩ (.int .i64 0)).drew = X at HIa HBa ⊢
  have cd := cell_at HIa.out.1 HIa.out.2.2.2.1
  have fd : X.frozen? ⟨ib, 65, none⟩ = false := frozen_of_row _ _ _ _ _ HIa.out.1
  go_wp2_with fail
  have HIb : Hid (ItB (X.setCell ⟨ib, 65, none⟩ (.int .i64 0)) ib mb (((arr.setIfInBounds 1 (.iface t (.pointer (some ⟨q, 0, none⟩)))).setIfInBounds 2 (.int .i64 0)).setIfInBounds 65 (.int .i64 0)) ((0 : Nat) : Int)) := HIa.out.setDep 0
  have HBb : Hid (But (· = ib) w (X.setCell ⟨ib, 65, none⟩ (.int .i64 0))) := HBa.out.setCell (.inl rfl) _
  have hsz := HI.out.2.1
  refine (last_w (X.setCell ⟨ib, 65, none⟩ (.int .i64 0)) ib mb _ 0 r (.iface t (.pointer (some ⟨q, 0, none⟩))) es [] es [] (by omega) HIb.out ?_ ⟨rfl, rfl, HR.out.stay (HBb.out.stay133 HI.out.1)⟩ (by rw [List.append_nil, List.nil_append])).mono ?_
  · show (((arr.setIfInBounds 1 (.iface t (.pointer (some ⟨q, 0, none⟩)))).setIfInBounds 2 (.int .i64 0)).setIfInBounds 65 (.int .i64 0))[1]? = _
    rw [Array.getElem?_setIfInBounds_ne (by omega), Array.getElem?_setIfInBounds_ne (by omega), Array.getElem?_setIfInBounds_self_of_lt (by omega)]
  rintro e w' ⟨rfl, hb', hst⟩
  have HST : Hid (But (· = ib) w w' ∧ St w' ib mb es (some (0 + es.length - 1))) := ⟨HBb.out.trans hb', hst⟩
  clear hb' hst
  go_wp2_with fail
  refine bodyPost_end (results_none rfl _ _ _) rfl ?_
  exact ⟨rfl, HST.out⟩
/-- whatever the iterator's state -/
theorem ilast_w {o k : Nat} {w : World} {ib mb : Nat} {arr : Array Value} {dd : Int} {es : List (Int × Int)} (hk : k < 900) (hi : ItB w ib mb arr dd) (n : SMapAt w mb o k es) :
    Calls Try.prog 75 #[.pointer (some ⟨ib, 0, none⟩)] w fun e w' => e = .returned (.tuple #[]) ∧ But (· = ib) w w' ∧ St w' ib mb es (ppos es.length) := by
  obtain ⟨root, cv, h1, h2, h3, ⟨h0, rfl⟩ | ⟨r, m, h4, h5⟩⟩ := n
  · subst h0
    refine (ilast_e ib mb w (cell_at hi.1 hi.2.2.1) (cell_at h1 rfl) _ (cell_at hi.1 hi.2.2.2.1) (frozen_of_row _ _ _ _ _ hi.1)).mono ?_
    rintro e w' ⟨rfl, rfl⟩
    exact ⟨rfl, (But.refl (· = ib) w).setCell (.inl rfl) _, _, .inl ⟨hi.setDep (-1), rfl⟩⟩
  · have hsn := h4.sn
    obtain ⟨t, q, rfl⟩ := hsn.ptr
    have hp := List.length_pos_iff.2 hsn.ne
    have e : ppos es.length = some (0 + es.length - 1) := by
      unfold ppos
      rw [if_neg (by omega), Nat.zero_add]
    rw [e]
    exact ilast_r ib mb arr dd w es r (by omega) hi _ _ t q h1 hsn


set_option maxRecDepth 100000 in
set_option maxHeartbeats 400000 in
theorem iseek_e (key : Int) (ib mb : Nat) (w : World) (c0 : w.cell? ⟨ib, 0, none⟩ = some (.pointer (some ⟨mb, 0, none⟩))) (c1 : w.cell? ⟨mb, 1, none⟩ = some .nilIface) (u : Value) (c2 : w.cell? ⟨ib, 65, none⟩ = some u) (f2 : w.frozen? ⟨ib, 65, none⟩ = false) :
    Calls Try.prog 77 #[.pointer (some ⟨ib, 0, none⟩), .int .i64 key] w fun e w' => e = .returned (.tuple #[]) ∧ w' = w.setCell ⟨ib, 65, none⟩ (.int .i64 (-1)) := by
  go_enter Try.func77, Try.ntmps77
  go_wp2
  refine bodyPost_ret (results_none rfl _ _ _) rfl ?_
  exact ⟨rfl, rfl⟩
set_option maxRecDepth 100000 in
set_option maxHeartbeats 800000 in
theorem iseek_r (o : Nat) (key : Int) (ib mb : Nat) (arr : Array Value) (dd : Int) (w : World) (es : List (Int × Int)) (r : Nat) (hr31 : r ≤ 31) (hi : ItB w ib mb arr dd) (u0 cv : Value) (t q : Nat) (hm : w.heap[mb]? = some (.cells #[u0, .iface t (.pointer (some ⟨q, 0, none⟩)), cv] 122 (0, 0))) (hr : SN w r (.iface t (.pointer (some ⟨q, 0, none⟩))) es) (hc : CmpIs o cv) (hs : Srt (ltO o) es) :
    Calls Try.prog 77 #[.pointer (some ⟨ib, 0, none⟩), .int .i64 key] w fun e w' => e = .returned (.tuple #[]) ∧ But (· = ib) w w' ∧ St w' ib mb es (pos es (at_ (ltO o) es key)) := by
  have c1 := cell_at (j := 1) hm rfl
  have c0 := cell_at hi.1 hi.2.2.1
  obtain ⟨x0, hx0⟩ := hi.2.2.2.2 0 (by omega)
  obtain ⟨un, hu0⟩ : ∃ u, arr[1]? = some u := ⟨_, Array.getElem?_eq_getElem (by have := hi.2.1; omega)⟩
  have cn := cell_at hi.1 hu0
  have cx := cell_at hi.1 hx0
  have fn : w.frozen? ⟨ib, 1, none⟩ = false := frozen_of_row _ _ _ _ _ hi.1
  have fx : w.frozen? ⟨ib, 2, none⟩ = false := frozen_of_row _ _ _ _ _ hi.1
  have HI := Lib.hid hi
  have HR := Lib.hid hr
  have HM := Lib.hid hm
  clear hi hr hu0 hx0 hm
  go_enter Try.func77, Try.ntmps77
  go_upto_region 2 with (fail)
  refine region_tail 12 (by kernel_rfl) (by kernel_rfl) ?_
  simp only [List.take_succ_cons, List.take_zero, List.drop_succ_cons, List.drop_zero]
  repeat still_step
  refine wpStill_nil ?_
  go_upto_region 3 with (fail)
  have HIa : Hid (ItB ((w.setCell ⟨ib, 1, none⟩ (.iface t (.pointer (some ⟨q, 0, none⟩)))).setCell ⟨ib, 2, none⟩ (.int .i64 0)).drew ib mb ((arr.setIfInBounds 1 (.iface t (.pointer (some ⟨q, 0, none⟩)))).setIfInBounds 2 (.int .i64 0)) dd) :=
    (HI.out.setNode (j := 0) (by omega) (.iface t (.pointer (some ⟨q, 0, none⟩)))).setIdx (j := 0) (by omega) 0
  have HBa : Hid (But (· = ib) w ((w.setCell ⟨ib, 1, none⟩ (.iface t (.pointer (some ⟨q, 0, none⟩)))).setCell ⟨ib, 2, none⟩ (.int .i64 0)).drew) := (((But.refl (· = ib) w).setCell (.inl rfl) _).setCell (.inl rfl) _).drew
  clear c0 c1 cn cx fn fx
  generalize ((w.setCell ⟨ib, 1, none⟩ (.iface t (.pointer (some ⟨q, 0, none⟩)))).setCell ⟨ib, 2, none⟩ (.int .i64 0)).drew = X at HIa HBa ⊢
  have cd := cell_at HIa.out.1 HIa.out.2.2.2.1
  have fd : X.frozen? ⟨ib, 65, none⟩ = false := frozen_of_row _ _ _ _ _ HIa.out.1
  go_wp2_with fail
  have HIb : Hid (ItB (X.setCell ⟨ib, 65, none⟩ (.int .i64 0)) ib mb (((arr.setIfInBounds 1 (.iface t (.pointer (some ⟨q, 0, none⟩)))).setIfInBounds 2 (.int .i64 0)).setIfInBounds 65 (.int .i64 0)) ((0 : Nat) : Int)) := HIa.out.setDep 0
  have HBb : Hid (But (· = ib) w (X.setCell ⟨ib, 65, none⟩ (.int .i64 0))) := HBa.out.setCell (.inl rfl) _
  have hsz := HI.out.2.1
  refine (seek_w o cv hc key (X.setCell ⟨ib, 65, none⟩ (.int .i64 0)) ib mb _ _ (HBb.out.at HM.out (ne133 HI.out.1 HM.out (by decide))) _ 0 r (.iface t (.pointer (some ⟨q, 0, none⟩))) es [] es [] (by omega) HIb.out ?_ ⟨rfl, rfl, HR.out.stay (HBb.out.stay133 HI.out.1)⟩ (by rw [List.append_nil, List.nil_append]) hs (by rw [List.length_nil, Nat.zero_add])).mono ?_
  · show (((arr.setIfInBounds 1 (.iface t (.pointer (some ⟨q, 0, none⟩)))).setIfInBounds 2 (.int .i64 0)).setIfInBounds 65 (.int .i64 0))[1]? = _
    rw [Array.getElem?_setIfInBounds_ne (by omega), Array.getElem?_setIfInBounds_ne (by omega), Array.getElem?_setIfInBounds_self_of_lt (by omega)]
  rintro e w' ⟨rfl, hb', hst⟩
  have HST : Hid (But (· = ib) w w' ∧ St w' ib mb es (pos es (at_ (ltO o) es key))) := ⟨HBb.out.trans hb', hst⟩
  clear hb' hst
  go_wp2_with fail
  refine bodyPost_end (results_none rfl _ _ _) rfl ?_
  exact ⟨rfl, HST.out⟩
/-- whatever the iterator's state -/
theorem iseek_w {o k : Nat} {w : World} {ib mb : Nat} {arr : Array Value} {dd : Int} {es : List (Int × Int)} (key : Int) (hk : k < 900) (hi : ItB w ib mb arr dd) (n : SMapAt w mb o k es) :
    Calls Try.prog 77 #[.pointer (some ⟨ib, 0, none⟩), .int .i64 key] w fun e w' => e = .returned (.tuple #[]) ∧ But (· = ib) w w' ∧ St w' ib mb es (pos es (at_ (ltO o) es key)) := by
  obtain ⟨root, cv, h1, h2, h3, ⟨h0, rfl⟩ | ⟨r, m, h4, h5⟩⟩ := n
  · subst h0
    refine (iseek_e key ib mb w (cell_at hi.1 hi.2.2.1) (cell_at h1 rfl) _ (cell_at hi.1 hi.2.2.2.1) (frozen_of_row _ _ _ _ _ hi.1)).mono ?_
    rintro e w' ⟨rfl, rfl⟩
    exact ⟨rfl, (But.refl (· = ib) w).setCell (.inl rfl) _, _, .inl ⟨hi.setDep (-1), rfl⟩⟩
  · have hsn := h4.sn
    obtain ⟨t, q, rfl⟩ := hsn.ptr
    have hp := List.length_pos_iff.2 hsn.ne
    have hc : CmpIs o cv := by
      rcases h3 with ⟨-, -, h⟩ | h
      · exact absurd h hsn.ne
      · exact h
    exact iseek_r o key ib mb arr dd w es r (by omega) hi _ _ t q h1 hsn hc h2


theorem z133 : ∀ i : Nat, i < 32 → ∃ x, Try.zeroCells133[1 + i * 2 + 1]? = some (.int .i64 x) := fun i hi => ⟨0, match i, hi with
  | 0, _ => rfl
  | 1, _ => rfl
  | 2, _ => rfl
  | 3, _ => rfl
  | 4, _ => rfl
  | 5, _ => rfl
  | 6, _ => rfl
  | 7, _ => rfl
  | 8, _ => rfl
  | 9, _ => rfl
  | 10, _ => rfl
  | 11, _ => rfl
  | 12, _ => rfl
  | 13, _ => rfl
  | 14, _ => rfl
  | 15, _ => rfl
  | 16, _ => rfl
  | 17, _ => rfl
  | 18, _ => rfl
  | 19, _ => rfl
  | 20, _ => rfl
  | 21, _ => rfl
  | 22, _ => rfl
  | 23, _ => rfl
  | 24, _ => rfl
  | 25, _ => rfl
  | 26, _ => rfl
  | 27, _ => rfl
  | 28, _ => rfl
  | 29, _ => rfl
  | 30, _ => rfl
  | 31, _ => rfl
  | i + 32, h => absurd h (by omega)⟩
theorem z133_size : Try.zeroCells133.size = 66 := rfl
theorem z133_dep : Try.zeroCells133[65]? = some (.int .i64 0) := rfl
theorem new_itb (w : World) (mb : Nat) : ItB (w.alloc (.cells (Try.zeroCells133.setIfInBounds 0 (.pointer (some ⟨mb, 0, none⟩))) 133)) w.heap.size mb (Try.zeroCells133.setIfInBounds 0 (.pointer (some ⟨mb, 0, none⟩))) 0 := by
  refine ⟨heap_alloc_last w _, by rw [Array.size_setIfInBounds]; exact z133_size, by rw [Array.getElem?_setIfInBounds_self_of_lt (by rw [z133_size]; omega)], by rw [Array.getElem?_setIfInBounds_ne (by omega)]; exact z133_dep, fun i hi => ?_⟩
  obtain ⟨x, hx⟩ := z133 i hi
  exact ⟨x, by rw [Array.getElem?_setIfInBounds_ne (by omega)]; exact hx⟩
set_option maxRecDepth 100000 in
set_option maxHeartbeats 800000 in
theorem iter_w {o k : Nat} {w : World} {mb : Nat} {es : List (Int × Int)} (hk : k < 900) (n : SMapAt w mb o k es) :
    Calls Try.prog 57 #[.pointer (some ⟨mb, 0, none⟩)] w fun e w' => e = .returned (.pointer (some ⟨w.heap.size, 0, none⟩)) ∧ Below w.heap.size w w' ∧ St w' w.heap.size mb es (pos es 0) := by
  have HF := Lib.hid (ifirst_w hk (new_itb w mb) (n.below ((Below.refl w.heap.size w).alloc (Nat.le_refl _) _)))
  clear n
  go_enter Try.func57, Try.ntmps57
  go_wp2_with fail
  refine HF.out.mono ?_
  rintro e w' ⟨rfl, hb, hs⟩
  have HP := Lib.hid (And.intro hb hs)
  clear hb hs
  go_wp2_with fail
  go_ret
  exact ⟨rfl, But.below ((But.of_below ((Below.refl w.heap.size w).alloc (Nat.le_refl _) _)).trans HP.out.1) (Nat.le_refl _) (fun k hk => by omega), HP.out.2⟩
end Go.Proofs.Ytefigjdebakccaa
