/- A map's set (as a copy): walks.

A map's delete (as a copy): walks.

A map's methods: Get, Set and Delete (as a copy). -/
import Derived.Test.YtpkndcmgialgcaaMeth
namespace Go.Proofs.Ytpkndcmgialgcaa
open Go.RowKit

theorem hdr_one {n : Int} {r : Value} {mo mu sh : Int} (h : r.oneCell' = true) : (#[Value.int .i64 n, r, .iface 175 (av mo mu sh)] : Array Value).all (·.oneCell') = true := by
  simp [h]
  exact ⟨rfl, rfl⟩
theorem below_at {w w' : World} (h : Below w.heap.size w w') {b : Nat} {o : Obj} (hb : w.heap[b]? = some o) : w'.heap[b]? = some o := (h.block b (lt_of_block hb)).trans hb
theorem alloc3 (w : World) (c1 c2 c3 : Array Value) (t1 t2 t3 : TypeId) :
    (((w.alloc (.cells c1 t1)).alloc (.cells c2 t2)).alloc (.cells c3 t3)).heap[w.heap.size]? = some (.cells c1 t1 (0, 0)) ∧
    (((w.alloc (.cells c1 t1)).alloc (.cells c2 t2)).alloc (.cells c3 t3)).heap[w.heap.size + 1]? = some (.cells c2 t2 (0, 0)) ∧
    (((w.alloc (.cells c1 t1)).alloc (.cells c2 t2)).alloc (.cells c3 t3)).heap[w.heap.size + 1 + 1]? = some (.cells c3 t3 (0, 0)) ∧
    Below w.heap.size w (((w.alloc (.cells c1 t1)).alloc (.cells c2 t2)).alloc (.cells c3 t3)) := by
  refine ⟨at_alloc (at_alloc (heap_alloc_last w _)), at_alloc ?_, ?_, (((Below.refl _ _).alloc (Nat.le_refl _) _).alloc (by rw [size_alloc]; omega) _).alloc (by rw [size_alloc, size_alloc]; omega) _⟩
  · have h := heap_alloc_last (w.alloc (.cells c1 t1)) (.cells c2 t2)
    rw [size_alloc] at h
    exact h
  · have h := heap_alloc_last ((w.alloc (.cells c1 t1)).alloc (.cells c2 t2)) (.cells c3 t3)
    rw [size_alloc, size_alloc] at h
    exact h

set_option maxRecDepth 100000 in
set_option maxHeartbeats 800000 in
theorem mset_e (mo mu sh : Int) (b : Nat) (n : Int) (key val : Int) (w : World) (hblk : w.heap[b]? = some (.cells #[.int .i64 n, .nilIface, .iface 175 (av mo mu sh)] 167 (0, 0))) :
    Calls Try.prog 101 #[.pointer (some ⟨b, 0, none⟩), .int .i64 key, .int .i64 val, .bool false] w fun e w' => e = .returned (.pointer (some ⟨w.heap.size, 0, none⟩)) ∧
      w' = ((w.alloc (.cells #[.int .i64 1, .iface 177 (.pointer (some ⟨w.heap.size + 1 + 1, 0, none⟩)), .iface 175 (av mo mu sh)] 167)).alloc (.cells #[.int .i64 key, .int .i64 val] 180)).alloc (.cells #[.slice (some ⟨w.heap.size + 1, 0, none⟩) 1 1] 183) := by
  have hc1 := cell_at (j := 1) hblk rfl
  have hc2 := cell_at (j := 2) hblk rfl
  have HBLK := Lib.hid hblk
  clear hblk
  go_enter Try.func101, Try.ntmps101
  go_wp2_with fail
  refine (mclone_w b _ w HBLK.out rfl (hdr_one rfl)).mono ?_
  rintro e w1 ⟨rfl, rfl⟩
  have hlt := lt_of_block HBLK.out
  go_wp2_with fail
  go_ret
  exact ⟨rfl, rfl⟩

set_option maxRecDepth 100000 in
set_option maxHeartbeats 1600000 in
theorem mset_r (h : Int → Nat) (mo mu sh : Int) (hH : HashIs mo mu sh h) (b : Nat) (n : Nat) (hn : n < 100000000) (key val : Int) (w : World) (ty p fid : Nat) (hblk : w.heap[b]? = some (.cells #[.int .i64 (n : Nat), .iface ty (.pointer (some ⟨p, 0, none⟩)), .iface 175 (av mo mu sh)] 167 (0, 0)))
    (hd : Disp ty (.pointer (some ⟨p, 0, none⟩)) fid "pub-frond/pub/immutable.set") (d : Bool) (Q : Value → World → Prop) (hQ : ∀ v w1 i u, Q v w1 → Q v (w1.setCell ⟨w.heap.size, i, none⟩ u))
    (hcall : ∀ W rb, Below w.heap.size w W → w.heap.size ≤ rb → Flag W rb false → Calls Try.prog fid #[.pointer (some ⟨p, 0, none⟩), .int .i64 key, .int .i64 val, .int .u64 0, .int .u32 (h key : Nat), .iface 175 (av mo mu sh), .bool false, .pointer (some ⟨rb, 0, none⟩)] W
      fun e w2 => ∃ t q, e = .returned (.iface t (.pointer (some ⟨q, 0, none⟩))) ∧ Q (.iface t (.pointer (some ⟨q, 0, none⟩))) w2 ∧ But (· = rb) W w2 ∧ Flag w2 rb d) :
    Calls Try.prog 101 #[.pointer (some ⟨b, 0, none⟩), .int .i64 key, .int .i64 val, .bool false] w fun e w' => e = .returned (.pointer (some ⟨w.heap.size, 0, none⟩)) ∧ Below w.heap.size w w' ∧
      ∃ v, w'.heap[w.heap.size]? = some (.cells #[.int .i64 ((if d then n + 1 else n : Nat) : Int), v, .iface 175 (av mo mu sh)] 167 (0, 0)) ∧ Q v w' := by
  have hc1 := cell_at (j := 1) hblk rfl
  have hc2 := cell_at (j := 2) hblk rfl
  have HBLK := Lib.hid hblk
  have HCALL := Lib.hid hcall
  have HQ := Lib.hid hQ
  have HH := Lib.hid hH.2
  obtain ⟨k1, k2, k3⟩ := hd
  obtain ⟨h1, h2, h3⟩ := disp_hash mo mu sh
  clear hblk hcall hH hQ
  go_enter Try.func101, Try.ntmps101
  go_wp2_with fail
  refine (mclone_w b _ w HBLK.out rfl (hdr_one rfl)).mono ?_
  rintro e w1 ⟨rfl, rfl⟩
  have hlt := lt_of_block HBLK.out
  go_upto_region 13 with (fail)
  have HZ : Hid (((w.alloc (Obj.cells #[Value.int IntKind.i64 (n : Nat), Value.iface ty (Value.pointer (some ⟨p, 0, none⟩)), Value.iface 175 (av mo mu sh)] 167)).alloc (Obj.cells #[Value.bool false] 4)).heap[w.heap.size]? = some (.cells #[Value.int IntKind.i64 (n : Nat), Value.iface ty (Value.pointer (some ⟨p, 0, none⟩)), Value.iface 175 (av mo mu sh)] 167 (0, 0))) := at_alloc (heap_alloc_last w _)
  have HF : Hid (Flag ((w.alloc (Obj.cells #[Value.int IntKind.i64 (n : Nat), Value.iface ty (Value.pointer (some ⟨p, 0, none⟩)), Value.iface 175 (av mo mu sh)] 167)).alloc (Obj.cells #[Value.bool false] 4)) (w.heap.size + 1) false) := by
    have h := heap_alloc_last (w.alloc (Obj.cells #[Value.int IntKind.i64 (n : Nat), Value.iface ty (Value.pointer (some ⟨p, 0, none⟩)), Value.iface 175 (av mo mu sh)] 167)) (Obj.cells #[Value.bool false] 4)
    rw [size_alloc] at h
    exact h
  have HB : Hid (Below w.heap.size w ((w.alloc (Obj.cells #[Value.int IntKind.i64 (n : Nat), Value.iface ty (Value.pointer (some ⟨p, 0, none⟩)), Value.iface 175 (av mo mu sh)] 167)).alloc (Obj.cells #[Value.bool false] 4))) := ((Below.refl _ _).alloc (Nat.le_refl _) _).alloc (by rw [size_alloc]; omega) _
  generalize (w.alloc (Obj.cells #[Value.int IntKind.i64 (n : Nat), Value.iface ty (Value.pointer (some ⟨p, 0, none⟩)), Value.iface 175 (av mo mu sh)] 167)).alloc (Obj.cells #[Value.bool false] 4) = X at HZ HF HB ⊢
  obtain ⟨q, hq⟩ : ∃ q, q = w.heap.size := ⟨_, rfl⟩
  obtain ⟨rb, hrb⟩ : ∃ rb, rb = q + 1 := ⟨_, rfl⟩
  rw [← hq] at HZ HF ⊢
  rw [← hrb] at HF ⊢
  have HQE := Lib.hid hq
  have HRE := Lib.hid hrb
  have HBX := Lib.hid (below_at HB.out HBLK.out)
  have HNB : Hid (¬ (b = rb ∨ b = q)) := by show ¬ _; omega
  clear hq hrb hc1 hc2 hlt
  have HR0 : Hid (But (fun x => x = rb ∨ x = q) X X.drew) := (But.refl _ X).drew
  refine region_segsR (fun W => But (fun x => x = rb ∨ x = q) X W) [([0, 1, 2, 3, 4, 5, 6, 7, 8, 10, 11, 12, 13], [9]), ([], [14]), ([15, 16], [17])] (by kernel_rfl) (by intro dst v c a w h; cases dst <;> exact h) (by kernel_rfl) HR0.out ?_
  refine r_segs ?_
  simp only [opsOf, List.getElem?_toArray, List.getElem?_cons_succ, List.getElem?_cons_zero]
  repeat (refine r_read ?_ (by kernel_rfl) ?_ (fun K hK => ?_); rotate_left 1; (intro W hR; have hc1 := cell_at (j := 1) (hR.at HBX.out HNB.out) rfl; have hc2 := cell_at (j := 2) (hR.at HBX.out HNB.out) rfl; clear hR; go_simp; try with_reducible rfl); go_simp; refine hK _ ?_; clear hK K)
  refine r_nil1 ?_
  refine r_op rfl (fun K hK => ?_)
  go_simp
  refine (HH.out _ _).mono ?_
  rintro e w5 ⟨rfl, hb5⟩
  have HB5 : Hid (Below X.heap.size X w5) := Below.undrew hb5
  clear hb5
  refine hK _ _ (But.of_below HB5.out) ?_
  clear hK K
  refine r_segs ?_
  simp only [opsOf]
  refine r_nil1 ?_
  refine r_op rfl (fun K hK => ?_)
  go_simp
  refine (HCALL.out w5 rb (HB.out.trans (HB5.out.mono HB.out.size)) (by have := HQE.out; have := HRE.out; omega) (HF.out.below HB5.out)).mono ?_
  rintro e w6 ⟨t2, q2, rfl, hq6, hb6, hf6⟩
  have HQ6 := Lib.hid hq6
  have HF6 := Lib.hid hf6
  have HB6 : Hid (But (· = rb) X w6) := (But.of_below HB5.out).trans hb6
  clear hq6 hb6 hf6
  refine hK _ _ (HB6.out.wider fun _ _ h => .inl h) ?_
  clear hK K
  have HZ6 : Hid (w6.heap[q]? = some (.cells #[Value.int IntKind.i64 (n : Nat), Value.iface ty (Value.pointer (some ⟨p, 0, none⟩)), Value.iface 175 (av mo mu sh)] 167 (0, 0))) := HB6.out.at HZ.out (by have := HRE.out; omega)
  refine r_segs ?_
  simp only [opsOf, List.getElem?_toArray, List.getElem?_cons_succ, List.getElem?_cons_zero]
  repeat (refine r_read ?_ (by kernel_rfl) ?_ (fun K hK => ?_); rotate_left 1; (intro W hR; clear hR; go_simp; try with_reducible rfl); go_simp; refine hK _ ?_; clear hK K)
  refine r_nil1 ?_
  have hc1 := cell_at (j := 1) HZ6.out rfl
  have hf1 : w6.frozen? ⟨q, 1, none⟩ = false := frozen_of_row _ _ _ _ _ HZ6.out
  refine r_op rfl (fun K hK => ?_)
  go_simp
  refine hK _ _ ((HB6.out.wider fun _ _ h => .inl h).setCell (.inl (.inr rfl)) _) ?_
  clear hK K hc1 hf1
  refine r_end ?_
  have HZ7 : Hid ((w6.setCell ⟨q, 1, none⟩ (.iface t2 (.pointer (some ⟨q2, 0, none⟩)))).heap[q]? = some (.cells #[Value.int IntKind.i64 (n : Nat), .iface t2 (.pointer (some ⟨q2, 0, none⟩)), Value.iface 175 (av mo mu sh)] 167 (0, 0))) := heap_setCell_same _ _ _ _ _ _ HZ6.out
  have HF7 : Hid (Flag (w6.setCell ⟨q, 1, none⟩ (.iface t2 (.pointer (some ⟨q2, 0, none⟩)))) rb d) := by
    show (w6.setCell ⟨q, 1, none⟩ (.iface t2 (.pointer (some ⟨q2, 0, none⟩)))).heap[rb]? = _
    rw [heap_setCell_other _ _ _ _ (by show rb ≠ q; have := HRE.out; omega)]
    exact HF6.out
  have HB7 : Hid (Below w.heap.size w (w6.setCell ⟨q, 1, none⟩ (.iface t2 (.pointer (some ⟨q2, 0, none⟩))))) :=
    But.below ((But.of_below HB.out).trans ((HB6.out.wider fun _ _ h => .inl h).setCell (S := fun x => x = rb ∨ x = q) (.inl (.inr rfl)) _)) (Nat.le_refl _) (fun k hk => by have := HQE.out; have := HRE.out; omega)
  have HQ7 : Hid (Q (.iface t2 (.pointer (some ⟨q2, 0, none⟩))) (w6.setCell ⟨q, 1, none⟩ (.iface t2 (.pointer (some ⟨q2, 0, none⟩))))) := by
    have h := HQ.out _ w6 1 (.iface t2 (.pointer (some ⟨q2, 0, none⟩))) HQ6.out
    rw [← HQE.out] at h
    exact h
  clear HZ6 HF6 HB6 HQ6
  generalize w6.setCell ⟨q, 1, none⟩ (.iface t2 (.pointer (some ⟨q2, 0, none⟩))) = W7 at HZ7 HF7 HB7 HQ7 ⊢
  clear w6
  have hr := cell_at (j := 0) HF7.out rfl
  have hc0 := cell_at (j := 0) HZ7.out rfl
  have hf0 : W7.frozen? ⟨q, 0, none⟩ = false := frozen_of_row _ _ _ _ _ HZ7.out
  have hw : IntKind.i64.wrap ((n : Int) + 1) = (n : Int) + 1 := by rw [IntKind.wrap_i64]; omega
  cases d with
  | false =>
    go_wp2_with fail
    go_ret
    exact ⟨by rw [← HQE.out]; rfl, HB7.out, _, by rw [← HQE.out]; exact HZ7.out, HQ7.out⟩
  | true =>
    go_wp2_with fail
    go_ret
    refine ⟨by rw [← HQE.out]; rfl, HB7.out.setCell (by show _ ≤ q; rw [HQE.out]; exact Nat.le_refl _) _, .iface t2 (.pointer (some ⟨q2, 0, none⟩)), ?_, ?_⟩
    · rw [← HQE.out]
      exact heap_setCell_same _ _ _ _ _ _ HZ7.out
    · have h := HQ.out _ W7 0 (.int .i64 ((n : Int) + 1)) HQ7.out
      rw [← HQE.out] at h
      exact h
end Go.Proofs.Ytpkndcmgialgcaa

namespace Go.Proofs.Ytpkndcmgialgcaa
open Go.RowKit

set_option maxRecDepth 100000 in
set_option maxHeartbeats 400000 in
theorem mdel_e (b : Nat) (key : Int) (mt : Bool) (w : World) (hc : w.cell? ⟨b, 1, none⟩ = some .nilIface) :
    Calls Try.prog 118 #[.pointer (some ⟨b, 0, none⟩), .int .i64 key, .bool mt] w fun e w' => e = .returned (.pointer (some ⟨b, 0, none⟩)) ∧ w = w' := by
  go_enter Try.func118, Try.ntmps118
  go_wp2
  go_ret
  exact ⟨rfl, rfl⟩

set_option maxRecDepth 100000 in
set_option maxHeartbeats 1600000 in
theorem mdel_n (h : Int → Nat) (mo mu sh : Int) (hH : HashIs mo mu sh h) (b : Nat) (n : Nat) (key : Int) (mt : Bool) (w : World) (ty p fid : Nat) (hblk : w.heap[b]? = some (.cells #[.int .i64 (n : Nat), .iface ty (.pointer (some ⟨p, 0, none⟩)), .iface 175 (av mo mu sh)] 167 (0, 0)))
    (hd : Disp ty (.pointer (some ⟨p, 0, none⟩)) fid "pub-frond/pub/immutable.delete")
    (hcall : ∀ W rb, Below w.heap.size w W → w.heap.size ≤ rb → Flag W rb false → Calls Try.prog fid #[.pointer (some ⟨p, 0, none⟩), .int .i64 key, .int .u64 0, .int .u32 (h key : Nat), .iface 175 (av mo mu sh), .bool mt, .pointer (some ⟨rb, 0, none⟩)] W
      fun e w2 => e = .returned (.iface ty (.pointer (some ⟨p, 0, none⟩))) ∧ But (· = rb) W w2 ∧ Flag w2 rb false) :
    Calls Try.prog 118 #[.pointer (some ⟨b, 0, none⟩), .int .i64 key, .bool mt] w fun e w' => e = .returned (.pointer (some ⟨b, 0, none⟩)) ∧ Below w.heap.size w w' := by
  have hc1 := cell_at (j := 1) hblk rfl
  have HBLK := Lib.hid hblk
  have HCALL := Lib.hid hcall
  have HH := Lib.hid hH.2
  obtain ⟨k1, k2, k3⟩ := hd
  obtain ⟨h1, h2, h3⟩ := disp_hash mo mu sh
  clear hblk hcall hH
  go_enter Try.func118, Try.ntmps118
  go_upto_region 4 with (fail)
  have HF : Hid (Flag (w.alloc (Obj.cells #[Value.bool false] 4)) w.heap.size false) := heap_alloc_last w _
  have HB : Hid (Below w.heap.size w (w.alloc (Obj.cells #[Value.bool false] 4))) := (Below.refl _ _).alloc (Nat.le_refl _) _
  generalize w.alloc (Obj.cells #[Value.bool false] 4) = X at HF HB ⊢
  obtain ⟨rb, hrb⟩ : ∃ rb, rb = w.heap.size := ⟨_, rfl⟩
  rw [← hrb] at HF ⊢
  have HRE := Lib.hid hrb
  have HBX := Lib.hid (below_at HB.out HBLK.out)
  have HNB : Hid (¬ (b = rb)) := by show ¬ _; have := lt_of_block HBLK.out; omega
  clear hrb hc1
  have HR0 : Hid (But (· = rb) X X.drew) := (But.refl _ X).drew
  refine region_segsR (fun W => But (· = rb) X W) [([0, 1, 2, 3, 4, 5, 6, 7, 8, 9, 11, 12, 13, 14, 15, 16, 17], [10]), ([], [18]), ([], [19])] (by kernel_rfl) (by intro dst v c a w h; cases dst <;> exact h) (by kernel_rfl) HR0.out ?_
  refine r_segs ?_
  simp only [opsOf, List.getElem?_toArray, List.getElem?_cons_succ, List.getElem?_cons_zero]
  repeat (refine r_read ?_ (by kernel_rfl) ?_ (fun K hK => ?_); rotate_left 1; (intro W hR; have hc1 := cell_at (j := 1) (hR.at HBX.out HNB.out) rfl; have hc2 := cell_at (j := 2) (hR.at HBX.out HNB.out) rfl; clear hR; go_simp; try with_reducible rfl); go_simp; refine hK _ ?_; clear hK K)
  refine r_nil1 ?_
  refine r_op rfl (fun K hK => ?_)
  go_simp
  refine (HH.out _ _).mono ?_
  rintro e w5 ⟨rfl, hb5⟩
  have HB5 : Hid (Below X.heap.size X w5) := Below.undrew hb5
  clear hb5
  refine hK _ _ (But.of_below HB5.out) ?_
  clear hK K
  refine r_segs ?_
  simp only [opsOf]
  refine r_nil1 ?_
  refine r_op rfl (fun K hK => ?_)
  go_simp
  refine (HCALL.out w5 rb (HB.out.trans (HB5.out.mono HB.out.size)) (by have := HRE.out; omega) (HF.out.below HB5.out)).mono ?_
  rintro e w6 ⟨rfl, hb6, hf6⟩
  have HF6 := Lib.hid hf6
  have HB6 : Hid (But (· = rb) X w6) := (But.of_below HB5.out).trans hb6
  clear hb6 hf6
  refine hK _ _ HB6.out ?_
  clear hK K
  refine r_segs ?_
  simp only [opsOf]
  refine r_nil1 ?_
  refine r_op rfl (fun K hK => ?_)
  go_simp
  refine hK _ _ HB6.out ?_
  clear hK K
  refine r_end ?_
  have hr := cell_at (j := 0) HF6.out rfl
  go_wp2_with fail
  go_ret
  exact ⟨rfl, But.below ((But.of_below HB.out).trans HB6.out) (Nat.le_refl _) (fun k hk => by have := HRE.out; omega)⟩

set_option maxRecDepth 100000 in
set_option maxHeartbeats 1600000 in
theorem mdel_y (h : Int → Nat) (mo mu sh : Int) (hH : HashIs mo mu sh h) (b : Nat) (n : Nat) (hn0 : 0 < n) (hn : n < 100000000) (key : Int) (w : World) (ty p fid : Nat) (hblk : w.heap[b]? = some (.cells #[.int .i64 (n : Nat), .iface ty (.pointer (some ⟨p, 0, none⟩)), .iface 175 (av mo mu sh)] 167 (0, 0)))
    (hd : Disp ty (.pointer (some ⟨p, 0, none⟩)) fid "pub-frond/pub/immutable.delete") (Q : Value → World → Prop)
    (hcall : ∀ W rb, Below w.heap.size w W → w.heap.size ≤ rb → Flag W rb false → Calls Try.prog fid #[.pointer (some ⟨p, 0, none⟩), .int .i64 key, .int .u64 0, .int .u32 (h key : Nat), .iface 175 (av mo mu sh), .bool false, .pointer (some ⟨rb, 0, none⟩)] W
      fun e w2 => ∃ v2, e = .returned v2 ∧ (v2 = .nilIface ∨ ∃ t q, v2 = .iface t (.pointer (some ⟨q, 0, none⟩))) ∧ Q v2 w2 ∧ But (· = rb) W w2 ∧ Flag w2 rb true) :
    Calls Try.prog 118 #[.pointer (some ⟨b, 0, none⟩), .int .i64 key, .bool false] w fun e w' =>
      ∃ v2 w2, Q v2 w2 ∧ Below w.heap.size w w2 ∧ e = .returned (.pointer (some ⟨w2.heap.size, 0, none⟩)) ∧ w' = w2.alloc (.cells #[.int .i64 ((n : Int) - 1), v2, .iface 175 (av mo mu sh)] 167) := by
  have hc1 := cell_at (j := 1) hblk rfl
  have HBLK := Lib.hid hblk
  have HCALL := Lib.hid hcall
  have HH := Lib.hid hH.2
  obtain ⟨k1, k2, k3⟩ := hd
  obtain ⟨h1, h2, h3⟩ := disp_hash mo mu sh
  clear hblk hcall hH
  go_enter Try.func118, Try.ntmps118
  go_upto_region 4 with (fail)
  have HF : Hid (Flag (w.alloc (Obj.cells #[Value.bool false] 4)) w.heap.size false) := heap_alloc_last w _
  have HB : Hid (Below w.heap.size w (w.alloc (Obj.cells #[Value.bool false] 4))) := (Below.refl _ _).alloc (Nat.le_refl _) _
  generalize w.alloc (Obj.cells #[Value.bool false] 4) = X at HF HB ⊢
  obtain ⟨rb, hrb⟩ : ∃ rb, rb = w.heap.size := ⟨_, rfl⟩
  rw [← hrb] at HF ⊢
  have HRE := Lib.hid hrb
  have HBX := Lib.hid (below_at HB.out HBLK.out)
  have HNB : Hid (¬ (b = rb)) := by show ¬ _; have := lt_of_block HBLK.out; omega
  clear hrb hc1
  have HR0 : Hid (But (· = rb) X X.drew) := (But.refl _ X).drew
  refine region_segsR (fun W => But (· = rb) X W) [([0, 1, 2, 3, 4, 5, 6, 7, 8, 9, 11, 12, 13, 14, 15, 16, 17], [10]), ([], [18]), ([], [19])] (by kernel_rfl) (by intro dst v c a w h; cases dst <;> exact h) (by kernel_rfl) HR0.out ?_
  refine r_segs ?_
  simp only [opsOf, List.getElem?_toArray, List.getElem?_cons_succ, List.getElem?_cons_zero]
  repeat (refine r_read ?_ (by kernel_rfl) ?_ (fun K hK => ?_); rotate_left 1; (intro W hR; have hc1 := cell_at (j := 1) (hR.at HBX.out HNB.out) rfl; have hc2 := cell_at (j := 2) (hR.at HBX.out HNB.out) rfl; clear hR; go_simp; try with_reducible rfl); go_simp; refine hK _ ?_; clear hK K)
  refine r_nil1 ?_
  refine r_op rfl (fun K hK => ?_)
  go_simp
  refine (HH.out _ _).mono ?_
  rintro e w5 ⟨rfl, hb5⟩
  have HB5 : Hid (Below X.heap.size X w5) := Below.undrew hb5
  clear hb5
  refine hK _ _ (But.of_below HB5.out) ?_
  clear hK K
  refine r_segs ?_
  simp only [opsOf]
  refine r_nil1 ?_
  refine r_op rfl (fun K hK => ?_)
  go_simp
  refine (HCALL.out w5 rb (HB.out.trans (HB5.out.mono HB.out.size)) (by have := HRE.out; omega) (HF.out.below HB5.out)).mono ?_
  rintro e w6 ⟨v2, rfl, hv2, hq6, hb6, hf6⟩
  have HQ6 := Lib.hid hq6
  have HF6 := Lib.hid hf6
  have HB6 : Hid (But (· = rb) X w6) := (But.of_below HB5.out).trans hb6
  clear hb6 hf6 hq6
  refine hK _ _ HB6.out ?_
  clear hK K
  refine r_segs ?_
  simp only [opsOf]
  refine r_nil1 ?_
  refine r_op rfl (fun K hK => ?_)
  go_simp
  refine hK _ _ HB6.out ?_
  clear hK K
  refine r_end ?_
  have hr := cell_at (j := 0) HF6.out rfl
  have HBY : Hid (w6.heap[b]? = some (.cells #[.int .i64 (n : Nat), .iface ty (.pointer (some ⟨p, 0, none⟩)), .iface 175 (av mo mu sh)] 167 (0, 0))) := HB6.out.at HBX.out HNB.out
  have HBB : Hid (Below w.heap.size w w6) := But.below ((But.of_below HB.out).trans HB6.out) (Nat.le_refl _) (fun k hk => by have := HRE.out; omega)
  go_wp2_with fail
  refine (mclone_w b _ w6 HBY.out rfl (hdr_one rfl)).mono ?_
  rintro e w7 ⟨rfl, rfl⟩
  have hc0 := cell_at (j := 0) HBY.out rfl
  have hlt := lt_of_block HBY.out
  have hw : IntKind.i64.wrap ((n : Int) - 1) = (n : Int) - 1 := by rw [IntKind.wrap_i64]; omega
  rcases hv2 with rfl | ⟨t, q, rfl⟩
  · go_wp2_with fail
    go_ret
    exact ⟨_, w6, HQ6.out, HBB.out, rfl, rfl⟩
  · go_wp2_with fail
    go_ret
    exact ⟨_, w6, HQ6.out, HBB.out, rfl, rfl⟩
end Go.Proofs.Ytpkndcmgialgcaa

namespace Go.Proofs.Ytpkndcmgialgcaa
open Go.RowKit

set_option maxRecDepth 100000 in
set_option maxHeartbeats 400000 in
theorem mget_e (b : Nat) (key : Int) (w : World) (hc : w.cell? ⟨b, 1, none⟩ = some .nilIface) :
    Calls Try.prog 78 #[.pointer (some ⟨b, 0, none⟩), .int .i64 key] w (GetPost none w) := by
  go_enter Try.func78, Try.ntmps78
  go_wp2
  go_ret2
  exact ⟨rfl, Below.refl _ _⟩

set_option maxRecDepth 100000 in
set_option maxHeartbeats 800000 in
theorem mget_r (h : Int → Nat) (mo mu sh : Int) (hH : HashIs mo mu sh h) (b : Nat) (n : Int) (key : Int) (w : World) (ty p fid : Nat) (hblk : w.heap[b]? = some (.cells #[.int .i64 n, .iface ty (.pointer (some ⟨p, 0, none⟩)), .iface 175 (av mo mu sh)] 167 (0, 0)))
    (hd : Disp ty (.pointer (some ⟨p, 0, none⟩)) fid "pub-frond/pub/immutable.get") (o : Option Int)
    (hcall : ∀ W, Below w.heap.size w W → Calls Try.prog fid #[.pointer (some ⟨p, 0, none⟩), .int .i64 key, .int .u64 0, .int .u32 (h key : Nat), .iface 175 (av mo mu sh)] W (GetPost o W)) :
    Calls Try.prog 78 #[.pointer (some ⟨b, 0, none⟩), .int .i64 key] w (GetPost o w) := by
  have hc1 := cell_at (j := 1) hblk rfl
  have hc2 := cell_at (j := 2) hblk rfl
  have HBLK := Lib.hid hblk
  have HCALL := Lib.hid hcall
  have HH := Lib.hid hH.2
  obtain ⟨k1, k2, k3⟩ := hd
  obtain ⟨h1, h2, h3⟩ := disp_hash mo mu sh
  clear hblk hcall hH
  go_enter Try.func78, Try.ntmps78
  go_wp2_with fail
  refine (HH.out _ _).mono ?_
  rintro e w5 ⟨rfl, hb5⟩
  have HB5 := Lib.hid hb5
  clear hb5 hc1 hc2
  have HB := Lib.hid (below_at HB5.out HBLK.out)
  have hc1 := cell_at (j := 1) HB.out rfl
  have hc2 := cell_at (j := 2) HB.out rfl
  go_upto_region 5 with (fail)
  have HR0 : Hid (Below w5.heap.size w5 w5.drew) := (Below.refl _ w5).drew
  refine region_segsR (fun W => Below w5.heap.size w5 W) [([0, 1, 2, 3, 4, 5, 6, 7, 8, 9, 10, 11], [12]), ([13, 14], [15]), ([], [16])] (by kernel_rfl) (by intro dst v c a w h; cases dst <;> exact h) (by kernel_rfl) HR0.out ?_
  refine r_segs ?_
  simp only [opsOf, List.getElem?_toArray, List.getElem?_cons_succ, List.getElem?_cons_zero]
  repeat (refine r_read ?_ (by kernel_rfl) ?_ (fun K hK => ?_); rotate_left 1; (intro W hR; have hc1 := cell_at (j := 1) (below_at hR HB.out) rfl; have hc2 := cell_at (j := 2) (below_at hR HB.out) rfl; clear hR; go_simp; try with_reducible rfl); go_simp; refine hK _ ?_; clear hK K)
  refine r_nil1 ?_
  refine r_op rfl (fun K hK => ?_)
  go_simp
  refine (HCALL.out _ HB5.out.drew).mono ?_
  rintro e w6 ⟨rfl, hb6⟩
  have HB6 := Lib.hid (HB5.out.drew.trans (hb6.mono HB5.out.size))
  have HB7 : Hid (Below w5.heap.size w5 w6) := Below.undrew hb6
  clear hb6
  refine hK _ _ HB7.out ?_
  clear hK K
  refine r_segs ?_
  simp only [opsOf, List.getElem?_toArray, List.getElem?_cons_succ, List.getElem?_cons_zero]
  repeat (refine r_read ?_ (by kernel_rfl) ?_ (fun K hK => ?_); rotate_left 1; (intro W hR; clear hR; go_simp; try with_reducible rfl); go_simp; refine hK _ ?_; clear hK K)
  refine r_nil1 ?_
  refine r_op rfl (fun K hK => ?_)
  go_simp
  refine hK _ _ HB7.out ?_
  clear hK K
  refine r_segs ?_
  simp only [opsOf]
  refine r_nil1 ?_
  refine r_op rfl (fun K hK => ?_)
  go_simp
  refine hK _ _ HB7.out ?_
  clear hK K
  refine r_end ?_
  go_wp2_with fail
  go_ret2
  exact ⟨rfl, HB6.out⟩

set_option maxRecDepth 100000 in
set_option maxHeartbeats 400000 in
theorem set99 (b : Nat) (key val : Int) (w : World) (P : Ending → World → Prop) (hp : Calls Try.prog 101 #[.pointer (some ⟨b, 0, none⟩), .int .i64 key, .int .i64 val, .bool false] w fun e w' => ∃ q, e = .returned (.pointer (some ⟨q, 0, none⟩)) ∧ P e w') :
    Calls Try.prog 99 #[.pointer (some ⟨b, 0, none⟩), .int .i64 key, .int .i64 val] w P := by
  have HP := Lib.hid hp
  clear hp
  go_enter Try.func99, Try.ntmps99
  go_wp2_with fail
  refine HP.out.mono ?_
  rintro e w' ⟨q, rfl, hq⟩
  have HQ := Lib.hid hq
  clear hq
  go_wp2_with fail
  exact HQ.out
set_option maxRecDepth 100000 in
set_option maxHeartbeats 400000 in
theorem del100 (b : Nat) (key : Int) (w : World) (P : Ending → World → Prop) (hp : Calls Try.prog 118 #[.pointer (some ⟨b, 0, none⟩), .int .i64 key, .bool false] w fun e w' => ∃ q, e = .returned (.pointer (some ⟨q, 0, none⟩)) ∧ P e w') :
    Calls Try.prog 100 #[.pointer (some ⟨b, 0, none⟩), .int .i64 key] w P := by
  have HP := Lib.hid hp
  clear hp
  go_enter Try.func100, Try.ntmps100
  go_wp2_with fail
  refine HP.out.mono ?_
  rintro e w' ⟨q, rfl, hq⟩
  have HQ := Lib.hid hq
  clear hq
  go_wp2_with fail
  exact HQ.out

section
variable {h : Int → Nat} {mo mu sh : Int} {S : Nat → Prop}
theorem Root.bound {t : Bool} {w : World} {v : Value} {es : List (Int × Int)} {q : Nat} (hq : w.heap.size ≤ q) (n : Root h S w t v es) : Root h (fun x => S x ∧ x ≠ q) w t v es :=
  n.inS fun b hb hS => ⟨hS, by omega⟩
theorem Root.setOff {t : Bool} {w : World} {v : Value} {es : List (Int × Int)} {q i : Nat} {u : Value} {S : Nat → Prop} (n : Root h (fun x => S x ∧ x ≠ q) w t v es) : Root h (fun x => S x ∧ x ≠ q) (w.setCell ⟨q, i, none⟩ u) t v es :=
  n.keeps fun b c ty h1 h2 _ => ⟨by rw [heap_setCell_other _ _ _ _ h1.2]; exact h2, h1⟩

/-- what Set leaves -/
def MPost (h : Int → Nat) (mo mu sh : Int) (S : Nat → Prop) (w : World) (m : MS Int Int) (e : Ending) (w' : World) : Prop :=
  ∃ v', e = .returned v' ∧ IsMap h mo mu sh (New S w) w' v' m ∧ Below w.heap.size w w'

theorem ms_set_ne (m : MS Int Int) (key val : Int) : (m.set h key val).es ≠ [] := by
  unfold MS.set
  split
  · simp
  · rename_i h0
    split
    · exact setR_ne h _ _ _ _ _
    · split
      · intro e
        have := congrArg List.length e
        rw [upd_len] at this
        exact h0 (List.eq_nil_of_length_eq_zero this)
      · split
        · simp
        · have gen : ∀ (es acc : List (Int × Int)), acc ≠ [] → es.foldl (fun a e => setR h 7 0 a e.1 e.2) acc ≠ [] := by
            intro es
            induction es with
            | nil => intro acc h; exact h
            | cons e es ih => intro acc _; exact ih _ (setR_ne h _ _ _ _ _)
          exact gen _ _ (by simp)

theorem map_set (hH : HashIs mo mu sh h) (key val : Int) {m : MS Int Int} {w : World} {v : Value} (hl : m.es.length < 90000000) (n : IsMap h mo mu sh S w v m) :
    Calls Try.prog 99 #[v, .int .i64 key, .int .i64 val] w (MPost h mo mu sh S w (m.set h key val)) := by
  obtain ⟨b, rfl, root, h1, h2, h3, h4⟩ := n
  refine set99 b key val w _ ?_
  by_cases h0 : m.es = []
  · rw [if_pos h0] at h4
    subst h4
    refine (mset_e mo mu sh b _ key val w h1).mono ?_
    rintro e w' ⟨rfl, rfl⟩
    obtain ⟨a1, a2, a3, a4⟩ := alloc3 w #[.int .i64 1, .iface 177 (.pointer (some ⟨w.heap.size + 1 + 1, 0, none⟩)), .iface 175 (av mo mu sh)] #[.int .i64 key, .int .i64 val] #[.slice (some ⟨w.heap.size + 1, 0, none⟩) 1 1] 167 180 183
    have e1 : m.set h key val = ⟨false, [(key, val)]⟩ := by unfold MS.set; rw [if_pos h0]
    refine ⟨_, rfl, _, rfl, ⟨w.heap.size, rfl, .iface 177 (.pointer (some ⟨w.heap.size + 1 + 1, 0, none⟩)), ?_, .inr (Nat.le_refl _), ?_, ?_⟩, a4⟩
    · rw [e1]; exact a1
    · rw [e1]; simp [Once]
    · rw [e1, if_neg (by simp)]
      refine Root.arr ⟨w.heap.size + 1 + 1, _, rfl, a3, ⟨w.heap.size + 1, 1, _, rfl, a2, rfl, Nat.le_refl _, fun i e he => ?_, .inr (by omega)⟩, by simp, by simp, .inr (by omega)⟩
      rcases i with _ | i
      · simp at he; subst he; exact ⟨rfl, rfl⟩
      · simp at he
  · rw [if_neg h0] at h4
    have hset := (ms_set_ne (h := h) m key val)
    have hlen : (if (!has m.es key) = true then m.es.length + 1 else m.es.length) = (m.set h key val).es.length := by
      rw [(MS.set_is h m h3 key val).length]
      cases has m.es key <;> rfl
    have hon := (MS.set_is h m h3 key val).once h3
    have hbl : ∀ W rb, Below w.heap.size w W → Flag W rb false →
        ∃ (ty p fid : Nat), root = .iface ty (.pointer (some ⟨p, 0, none⟩)) ∧ Disp ty (.pointer (some ⟨p, 0, none⟩)) fid "pub-frond/pub/immutable.set" ∧
      Calls Try.prog fid #[.pointer (some ⟨p, 0, none⟩), .int .i64 key, .int .i64 val, .int .u64 0, .int .u32 (h key : Nat), .iface 175 (av mo mu sh), .bool false, .pointer (some ⟨rb, 0, none⟩)] W (RSet h (fun x => S x ∧ x ≠ w.heap.size) W rb false m key val) := fun W rb hW hf =>
      root_set hH key val m hl h3 h0 ((h4.bound (Nat.le_refl _)).stay (Stay.of_below hW)) hf
    obtain ⟨ty, p, rfl⟩ := h4.ptr
    obtain ⟨ty', p', fid, hv', hd, _⟩ := hbl (w.alloc (.cells #[.bool false] 4)) w.heap.size ((Below.refl _ _).alloc (Nat.le_refl _) _) (heap_alloc_last w _)
    have e9 := hv'
    simp only [Value.iface.injEq, Value.pointer.injEq, Option.some.injEq, Addr.mk.injEq, and_true] at e9
    obtain ⟨rfl, rfl⟩ := e9
    refine (mset_r h mo mu sh hH b m.es.length (by omega) key val w ty p fid h1 hd (!has m.es key) (fun v w2 => Root h (fun x => New S w x ∧ x ≠ w.heap.size) w2 (m.set h key val).trie v (m.set h key val).es) (fun v w1 i u hr => hr.setOff) (fun W rb hW hrb hf => ?_)).mono ?_
    · obtain ⟨ty2, p2, fid2, hv2, hd2, hc2⟩ := hbl W rb hW hf
      obtain ⟨rfl, rfl, rfl⟩ := disp_one hd hd2 hv2
      by_cases hsz : w.heap.size < W.heap.size
      · refine hc2.mono ?_
        rintro e w2 ⟨v', rfl, n2, hb2, hf2⟩
        obtain ⟨t, q, rfl⟩ := n2.ptr
        refine ⟨t, q, rfl, n2.inS fun x _ hx => ?_, hb2, by rw [Bool.false_or] at hf2; exact hf2⟩
        rcases hx with hx | hx
        · exact ⟨.inl hx.1, hx.2⟩
        · exact ⟨.inr (by omega), by omega⟩
      · exfalso
        have := lt_of_block hf
        omega
    · rintro e w' ⟨rfl, hb, v', hz, hr⟩
      refine ⟨_, rfl, _, rfl, ⟨w.heap.size, rfl, v', ?_, .inr (Nat.le_refl _), hon, ?_⟩, hb⟩
      · rw [← hlen]; exact hz
      · rw [if_neg hset]
        exact hr.inS fun x _ hx => hx.1

/-- what Delete leaves -/
theorem map_del (hH : HashIs mo mu sh h) (key : Int) {m : MS Int Int} {w : World} {v : Value} (hl : m.es.length < 90000000) (n : IsMap h mo mu sh S w v m) :
    Calls Try.prog 100 #[v, .int .i64 key] w (MPost h mo mu sh S w (m.del key)) := by
  obtain ⟨b, rfl, root, h1, h2, h3, h4⟩ := n
  refine del100 b key w _ ?_
  by_cases h0 : m.es = []
  · have h5 := h4
    rw [if_pos h0] at h5
    subst h5
    refine (mdel_e b key false w (cell_at h1 rfl)).mono ?_
    rintro e w' ⟨rfl, rfl⟩
    have e1 : m.del key = m := by
      obtain ⟨t, es⟩ := m
      have h0 : es = [] := h0
      subst h0
      rfl
    rw [e1]
    exact ⟨_, rfl, _, rfl, ⟨b, rfl, _, h1, .inl h2, h3, by rw [if_pos h0]⟩, Below.refl _ _⟩
  · rw [if_neg h0] at h4
    have hbl : ∀ W rb, Below w.heap.size w W → Flag W rb false →
        ∃ (ty p fid : Nat), root = .iface ty (.pointer (some ⟨p, 0, none⟩)) ∧ Disp ty (.pointer (some ⟨p, 0, none⟩)) fid "pub-frond/pub/immutable.delete" ∧
      Calls Try.prog fid #[.pointer (some ⟨p, 0, none⟩), .int .i64 key, .int .u64 0, .int .u32 (h key : Nat), .iface 175 (av mo mu sh), .bool false, .pointer (some ⟨rb, 0, none⟩)] W (RDel h S W rb m.trie m.es key root) := fun W rb hW hf =>
      root_del hH key hl h3 (h4.stay (Stay.of_below hW)) hf
    obtain ⟨ty, p, rfl⟩ := h4.ptr
    obtain ⟨ty', p', fid, hv', hd, _⟩ := hbl (w.alloc (.cells #[.bool false] 4)) w.heap.size ((Below.refl _ _).alloc (Nat.le_refl _) _) (heap_alloc_last w _)
    have e9 := hv'
    simp only [Value.iface.injEq, Value.pointer.injEq, Option.some.injEq, Addr.mk.injEq, and_true] at e9
    obtain ⟨rfl, rfl⟩ := e9
    by_cases hh : has m.es key = true
    · have hpos : 0 < m.es.length := by
        rcases Nat.eq_zero_or_pos m.es.length with h9 | h9
        · exact absurd (List.eq_nil_of_length_eq_zero h9) h0
        · exact h9
      have hlen : (del m.es key).length = m.es.length - 1 := by rw [del_length h3, if_pos hh]
      refine (mdel_y h mo mu sh hH b m.es.length hpos (by omega) key w ty p fid h1 hd (fun v w2 => (if del m.es key = [] then v = .nilIface else Root h (New S w) w2 m.trie v (del m.es key))) (fun W rb hW hrb hf => ?_)).mono ?_
      · obtain ⟨ty2, p2, fid2, hv2, hd2, hc2⟩ := hbl W rb hW hf
        obtain ⟨rfl, rfl, rfl⟩ := disp_one hd hd2 hv2
        refine hc2.mono ?_
        rintro e w2 ⟨hb2, hf2, hp⟩
        rw [if_pos hh] at hp
        rw [hh] at hf2
        by_cases hdn : del m.es key = []
        · rw [if_pos hdn] at hp
          exact ⟨_, hp, .inl rfl, by rw [if_pos hdn], hb2, hf2⟩
        · rw [if_neg hdn] at hp
          obtain ⟨v', rfl, n2⟩ := hp
          obtain ⟨t, q, rfl⟩ := n2.ptr
          exact ⟨_, rfl, .inr ⟨t, q, rfl⟩, by rw [if_neg hdn]; exact n2.inS fun x _ hx => New.of hW.size hx, hb2, hf2⟩
      · rintro e w' ⟨v2, w2, hq, hb, rfl, rfl⟩
        have hb2 : Below w2.heap.size w2 (w2.alloc (.cells #[.int .i64 ((m.es.length : Nat) - 1 : Int), v2, .iface 175 (av mo mu sh)] 167)) := (Below.refl _ _).alloc (Nat.le_refl _) _
        refine ⟨_, rfl, _, rfl, ⟨w2.heap.size, rfl, v2, ?_, .inr hb.size, del_once h3 key, ?_⟩, hb.trans (hb2.mono hb.size)⟩
        · have e1 : (((m.del key).es.length : Nat) : Int) = (m.es.length : Nat) - 1 := by
            show (((del m.es key).length : Nat) : Int) = _
            rw [hlen]
            omega
          rw [e1]
          exact heap_alloc_last w2 _
        · show (if del m.es key = [] then _ else _)
          split
          · rename_i e; rw [if_pos e] at hq; exact hq
          · rename_i e; rw [if_neg e] at hq; exact hq.stay (Stay.of_below hb2)
    · have hh' : has m.es key = false := by simpa using hh
      have hdn : del m.es key = m.es := del_none fun y hy e => hh (has_iff.2 ⟨y, hy, e⟩)
      refine (mdel_n h mo mu sh hH b m.es.length key false w ty p fid h1 hd (fun W rb hW hrb hf => ?_)).mono ?_
      · obtain ⟨ty2, p2, fid2, hv2, hd2, hc2⟩ := hbl W rb hW hf
        obtain ⟨rfl, rfl, rfl⟩ := disp_one hd hd2 hv2
        refine hc2.mono ?_
        rintro e w2 ⟨hb2, hf2, hp⟩
        rw [if_neg hh] at hp
        rw [hh'] at hf2
        exact ⟨hp, hb2, hf2⟩
      · rintro e w' ⟨rfl, hb⟩
        have e1 : m.del key = m := by
          obtain ⟨t, es⟩ := m
          show MS.mk t (del es key) = _
          rw [show del es key = es from hdn]
        rw [e1]
        refine ⟨_, rfl, _, rfl, ⟨b, rfl, _, below_at hb h1, .inl h2, h3, ?_⟩, hb⟩
        rw [if_neg h0]
        exact (h4.stay (Stay.of_below hb)).inS fun x _ hx => .inl hx

theorem map_get (hH : HashIs mo mu sh h) (key : Int) {m : MS Int Int} {w : World} {v : Value} (hl : m.es.length < 90000000) (n : IsMap h mo mu sh S w v m) :
    Calls Try.prog 78 #[v, .int .i64 key] w (GetPost (look m.es key) w) := by
  obtain ⟨b, rfl, root, h1, h2, h3, h4⟩ := n
  by_cases h0 : m.es = []
  · rw [if_pos h0] at h4
    subst h4
    have e : look m.es key = none := by rw [h0]; rfl
    rw [e]
    exact mget_e b key w (cell_at h1 rfl)
  · rw [if_neg h0] at h4
    obtain ⟨ty, p, fid, rfl, hd, _⟩ := root_get hH key hl h4
    refine mget_r h mo mu sh hH b _ key w ty p fid h1 hd _ fun W hW => ?_
    obtain ⟨ty2, p2, fid2, hv2, hd2, hc2⟩ := root_get hH key hl (h4.stay (Stay.of_below hW))
    obtain ⟨rfl, rfl, rfl⟩ := disp_one hd hd2 hv2
    exact hc2
end
end Go.Proofs.Ytpkndcmgialgcaa
