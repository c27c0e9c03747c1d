/- The walks over a branch with a bitmap: delete.

The walks over a branch with a bitmap: delete of a child. -/
import Derived.Test.YtpkndcmgialgcaaColD
namespace Go.Proofs.Ytpkndcmgialgcaa
open Go.RowKit

set_option maxRecDepth 100000 in
set_option maxHeartbeats 400000 in
theorem bmp_del_n (H : Value) (b rb : Nat) (sf hh : Nat) (key : Int) (mt : Bool) (j m : Nat) (hj : j < 32) (hs : sf < 32) (hb : bits BinOp.and IntKind.u32 ((hh : Int) / 2 ^ sf) 31 = (j : Int)) (hz : (bits BinOp.and IntKind.u32 (m : Int) (2 ^ j % 4294967296) == 0) = true) (w : World) (hc : w.cell? ⟨b, 0, none⟩ = some (.int .u32 m)) :
    Calls Try.prog 198 #[.pointer (some ⟨b, 0, none⟩), .int .i64 key, .int .u64 sf, .int .u32 hh, H, .bool mt, .pointer (some ⟨rb, 0, none⟩)] w fun e w' => e = .returned (.iface 252 (.pointer (some ⟨b, 0, none⟩))) ∧ w = w' := by
  go_enter Try.func198, Try.ntmps198
  go_wp2
  go_ret
  exact ⟨rfl, rfl⟩

set_option maxRecDepth 100000 in
set_option maxHeartbeats 1600000 in
theorem bmp_del_s (H : Value) (b rb nb n cap : Nat) (arr : Array Value) (sf hh : Nat) (key : Int) (mt : Bool) (j m i : Nat) (hj : j < 32) (hs : sf < 32) (hb : bits BinOp.and IntKind.u32 ((hh : Int) / 2 ^ sf) 31 = (j : Int)) (w : World)
    (hz : (bits BinOp.and IntKind.u32 (m : Int) (2 ^ j % 4294967296) == 0) = false)
    (mr : Nat) (hr : bits BinOp.and IntKind.u32 m ((2 ^ j - 1) % 4294967296) = (mr : Int)) (hmr : mr < 4294967296) (hi : i = cnt mr.testBit 32) (hin : i < n) (hn : n ≤ 32)
    (hblk : w.heap[b]? = some (.cells #[.int .u32 m, .slice (some ⟨nb, 0, none⟩) n cap] 255 (0, 0))) (hnb : w.heap[nb]? = some (.cells arr 165 (0, 0)))
    (hne : b ≠ rb) (hne2 : nb ≠ rb) (p t fid : Nat) (hc : arr[i]? = some (.iface t (.pointer (some ⟨p, 0, none⟩))))
    (hd : Disp t (.pointer (some ⟨p, 0, none⟩)) fid "pub-frond/pub/immutable.delete")
    (hcall : ∀ w1, Below w.heap.size w w1 → Calls Try.prog fid #[.pointer (some ⟨p, 0, none⟩), .int .i64 key, .int .u64 (sf + 5 : Nat), .int .u32 hh, H, .bool mt, .pointer (some ⟨rb, 0, none⟩)] w1 fun e w2 => e = .returned (.iface t (.pointer (some ⟨p, 0, none⟩))) ∧ But (· = rb) w w2 ∧ Flag w2 rb false) :
    Calls Try.prog 198 #[.pointer (some ⟨b, 0, none⟩), .int .i64 key, .int .u64 sf, .int .u32 hh, H, .bool mt, .pointer (some ⟨rb, 0, none⟩)] w fun e w' =>
      e = .returned (.iface 252 (.pointer (some ⟨b, 0, none⟩))) ∧ But (· = rb) w w' ∧ Flag w' rb false := by
  have hc0 := cell_at (j := 0) hblk rfl
  have hc1 := cell_at (j := 1) hblk rfl
  have hci := cell_at hnb hc
  have HL0 := Lib.hid (lt_of_block hblk)
  have HL1 := Lib.hid (lt_of_block hnb)
  obtain ⟨h1, h2, h3⟩ := hd
  have H4 := Lib.hid hcall
  have HP : ∀ w, Hid (Calls Try.prog 201 #[.int .u32 mr] w fun e w' => e = .returned (.int .i64 (i : Nat)) ∧ Below w.heap.size w w') := fun w => by
    have hp := pop_w (mr : Int) w (by omega) (by omega)
    rw [Int.toNat_natCast, ← hi] at hp
    exact Lib.hid hp
  have HBLK := Lib.hid hblk
  have HNB := Lib.hid hnb
  have HNE := Lib.hid (And.intro hne hne2)
  have HN := Lib.hid hn
  clear hcall hblk hnb hne hne2 hi hmr hc hn
  go_enter Try.func198, Try.ntmps198
  go_wp2_with fail
  with_reducible refine (HP _).out.mono ?_
  rintro e w1 ⟨rfl, hb1⟩
  have HB1 := Lib.hid hb1
  have hc0' := (hb1.cell HL0.out).trans hc0
  have hc1' := (hb1.cell HL0.out).trans hc1
  have hci' := (hb1.cell HL1.out).trans hci
  clear hb1
  go_wp2_with fail
  refine (H4.out _ HB1.out).mono ?_
  rintro e w2 ⟨rfl, hb2, hf2⟩
  have HB2 := Lib.hid hb2
  have HF2 := Lib.hid hf2
  clear hb2 hf2 hc0' hc1' hci' hc0 hc1 hci HB1
  have hr' := cell_at (j := 0) HF2.out rfl
  go_wp2_with fail
  go_ret
  exact ⟨rfl, HB2.out, HF2.out⟩

set_option maxRecDepth 100000 in
set_option maxHeartbeats 1600000 in
theorem bmp_del_x (H : Value) (b rb nb n cap : Nat) (arr : Array Value) (sf hh : Nat) (key : Int) (mt : Bool) (j m i : Nat) (hj : j < 32) (hs : sf < 32) (hb : bits BinOp.and IntKind.u32 ((hh : Int) / 2 ^ sf) 31 = (j : Int)) (w : World)
    (hz : (bits BinOp.and IntKind.u32 (m : Int) (2 ^ j % 4294967296) == 0) = false)
    (mr : Nat) (hr : bits BinOp.and IntKind.u32 m ((2 ^ j - 1) % 4294967296) = (mr : Int)) (hmr : mr < 4294967296) (hi : i = cnt mr.testBit 32) (hin : i < n) (hn : n ≤ 32) (hn1 : n = 1)
    (hblk : w.heap[b]? = some (.cells #[.int .u32 m, .slice (some ⟨nb, 0, none⟩) n cap] 255 (0, 0))) (hnb : w.heap[nb]? = some (.cells arr 165 (0, 0)))
    (hne : b ≠ rb) (hne2 : nb ≠ rb) (p t fid : Nat) (hc : arr[i]? = some (.iface t (.pointer (some ⟨p, 0, none⟩))))
    (hd : Disp t (.pointer (some ⟨p, 0, none⟩)) fid "pub-frond/pub/immutable.delete")
    (hcall : ∀ w1, Below w.heap.size w w1 → Calls Try.prog fid #[.pointer (some ⟨p, 0, none⟩), .int .i64 key, .int .u64 (sf + 5 : Nat), .int .u32 hh, H, .bool mt, .pointer (some ⟨rb, 0, none⟩)] w1 fun e w2 => e = .returned .nilIface ∧ But (· = rb) w w2 ∧ Flag w2 rb true) :
    Calls Try.prog 198 #[.pointer (some ⟨b, 0, none⟩), .int .i64 key, .int .u64 sf, .int .u32 hh, H, .bool mt, .pointer (some ⟨rb, 0, none⟩)] w fun e w' =>
      e = .returned .nilIface ∧ But (· = rb) w w' ∧ Flag w' rb true := by
  have hc0 := cell_at (j := 0) hblk rfl
  have hc1 := cell_at (j := 1) hblk rfl
  have hci := cell_at hnb hc
  have HL0 := Lib.hid (lt_of_block hblk)
  have HL1 := Lib.hid (lt_of_block hnb)
  obtain ⟨h1, h2, h3⟩ := hd
  have H4 := Lib.hid hcall
  have HP : ∀ w, Hid (Calls Try.prog 201 #[.int .u32 mr] w fun e w' => e = .returned (.int .i64 (i : Nat)) ∧ Below w.heap.size w w') := fun w => by
    have hp := pop_w (mr : Int) w (by omega) (by omega)
    rw [Int.toNat_natCast, ← hi] at hp
    exact Lib.hid hp
  have HBLK := Lib.hid hblk
  have HNB := Lib.hid hnb
  have HNE := Lib.hid (And.intro hne hne2)
  have HN := Lib.hid hn
  clear hcall hblk hnb hne hne2 hi hmr hc hn
  have HN1 := Lib.hid hn1
  clear hn1
  go_enter Try.func198, Try.ntmps198
  go_wp2_with fail
  with_reducible refine (HP _).out.mono ?_
  rintro e w1 ⟨rfl, hb1⟩
  have HB1 := Lib.hid hb1
  have hc0' := (hb1.cell HL0.out).trans hc0
  have hc1' := (hb1.cell HL0.out).trans hc1
  have hci' := (hb1.cell HL1.out).trans hci
  clear hb1
  go_wp2_with fail
  refine (H4.out _ HB1.out).mono ?_
  rintro e w2 ⟨rfl, hb2, hf2⟩
  have HB2 := Lib.hid hb2
  have HF2 := Lib.hid hf2
  clear hb2 hf2 hc0' hc1' hci' hc0 hc1 hci HB1
  have hr' := cell_at (j := 0) HF2.out rfl
  have hc1 := cell_at (j := 1) (HB2.out.at HBLK.out HNE.out.1) rfl
  have h1n : ((n : Int) == 1) = true := by rw [HN1.out]; rfl
  go_wp2_with fail
  go_ret
  exact ⟨rfl, HB2.out, HF2.out⟩

set_option maxRecDepth 100000 in
set_option maxHeartbeats 1600000 in
theorem bmp_del_k (H : Value) (b rb nb n cap : Nat) (arr : Array Value) (sf hh : Nat) (key : Int) (_mt : Bool) (j m i : Nat) (hj : j < 32) (hs : sf < 32) (hb : bits BinOp.and IntKind.u32 ((hh : Int) / 2 ^ sf) 31 = (j : Int)) (w : World)
    (hz : (bits BinOp.and IntKind.u32 (m : Int) (2 ^ j % 4294967296) == 0) = false)
    (mr : Nat) (hr : bits BinOp.and IntKind.u32 m ((2 ^ j - 1) % 4294967296) = (mr : Int)) (hmr : mr < 4294967296) (hi : i = cnt mr.testBit 32) (hin : i < n) (hn : n ≤ 32) (L : List Value) (hL : L.length = n) (hcs : ∀ (k : Nat) (v : Value), L[k]? = some v → arr[k]? = some v ∧ v.oneCell' = true) (Q : Value → World → Prop)
    (hblk : w.heap[b]? = some (.cells #[.int .u32 m, .slice (some ⟨nb, 0, none⟩) n cap] 255 (0, 0))) (hnb : w.heap[nb]? = some (.cells arr 165 (0, 0)))
    (hne : b ≠ rb) (hne2 : nb ≠ rb) (p t fid : Nat) (hc : arr[i]? = some (.iface t (.pointer (some ⟨p, 0, none⟩))))
    (hd : Disp t (.pointer (some ⟨p, 0, none⟩)) fid "pub-frond/pub/immutable.delete")
    (hcall : ∀ w1, Below w.heap.size w w1 → Calls Try.prog fid #[.pointer (some ⟨p, 0, none⟩), .int .i64 key, .int .u64 (sf + 5 : Nat), .int .u32 hh, H, .bool false, .pointer (some ⟨rb, 0, none⟩)] w1 fun e w2 => ∃ t q, e = .returned (.iface t (.pointer (some ⟨q, 0, none⟩))) ∧ Q (.iface t (.pointer (some ⟨q, 0, none⟩))) w2 ∧ But (· = rb) w w2 ∧ Flag w2 rb true) :
    Calls Try.prog 198 #[.pointer (some ⟨b, 0, none⟩), .int .i64 key, .int .u64 sf, .int .u32 hh, H, .bool false, .pointer (some ⟨rb, 0, none⟩)] w fun e w' =>
      ∃ w2 v2, Q v2 w2 ∧ But (· = rb) w w2 ∧ Flag w2 rb true ∧ BmpPost w2 m (L.set i v2) e w' := by
  have hc0 := cell_at (j := 0) hblk rfl
  have hc1 := cell_at (j := 1) hblk rfl
  have hci := cell_at hnb hc
  have HL0 := Lib.hid (lt_of_block hblk)
  have HL1 := Lib.hid (lt_of_block hnb)
  obtain ⟨h1, h2, h3⟩ := hd
  have H4 := Lib.hid hcall
  have HP : ∀ w, Hid (Calls Try.prog 201 #[.int .u32 mr] w fun e w' => e = .returned (.int .i64 (i : Nat)) ∧ Below w.heap.size w w') := fun w => by
    have hp := pop_w (mr : Int) w (by omega) (by omega)
    rw [Int.toNat_natCast, ← hi] at hp
    exact Lib.hid hp
  have HBLK := Lib.hid hblk
  have HNB := Lib.hid hnb
  have HNE := Lib.hid (And.intro hne hne2)
  have HN := Lib.hid hn
  clear hcall hblk hnb hne hne2 hi hmr hc hn
  have HLL := Lib.hid (And.intro hL hcs)
  clear hL hcs
  go_enter Try.func198, Try.ntmps198
  go_wp2_with fail
  with_reducible refine (HP _).out.mono ?_
  rintro e w1 ⟨rfl, hb1⟩
  have HB1 := Lib.hid hb1
  have hc0' := (hb1.cell HL0.out).trans hc0
  have hc1' := (hb1.cell HL0.out).trans hc1
  have hci' := (hb1.cell HL1.out).trans hci
  clear hb1
  go_wp2_with fail
  refine (H4.out _ HB1.out).mono ?_
  rintro e w2 ⟨t', q, rfl, hq, hb2, hf2⟩
  have HQ := Lib.hid hq
  have HB2 := Lib.hid hb2
  have HF2 := Lib.hid hf2
  clear hq hb2 hf2 hc0' hc1' hci' hc0 hc1 hci HB1
  have hr' := cell_at (j := 0) HF2.out rfl
  have HB2b := Lib.hid (HB2.out.at HBLK.out HNE.out.1)
  have HB2n := Lib.hid (HB2.out.at HNB.out HNE.out.2)
  have hc0 := cell_at (j := 0) HB2b.out rfl
  have hc1 := cell_at (j := 1) HB2b.out rfl
  have HLb := Lib.hid (lt_of_block HB2b.out)
  obtain ⟨Z, hZl, hmk⟩ := make253 w2.drew n (by have := HN.out; omega)
  have HZL := Lib.hid hZl
  clear hZl
  go_upto_region 24 with (fail)
  have HR0 : Hid (Below w2.heap.size w2 w2.drew) := (Below.refl _ w2).drew
  refine region_segsR (fun W => Below w2.heap.size w2 W) [([0, 1, 2, 3, 4, 5, 6, 7, 8], [9]), ([10], [11]), ([], [12])] (by kernel_rfl) (by intro dst v c a w h; cases dst <;> exact h) (by kernel_rfl) HR0.out ?_
  refine r_segs ?_
  simp only [opsOf, List.getElem?_toArray, List.getElem?_cons_succ, List.getElem?_cons_zero]
  repeat (refine r_read ?_ (by kernel_rfl) ?_ (fun K hK => ?_); rotate_left 1; (intro W hR; have hc0 := (hR.cell HLb.out).trans hc0; have hc1 := (hR.cell HLb.out).trans hc1; clear hR; go_simp; try with_reducible rfl); go_simp; refine hK _ ?_; clear hK K)
  refine r_nil1 ?_
  refine r_op rfl (fun K hK => ?_)
  go_simp
  refine hK _ _ (HR0.out.alloc (Nat.le_refl _) _) ?_
  clear hK K
  refine r_segs ?_
  simp only [opsOf, List.getElem?_toArray, List.getElem?_cons_succ, List.getElem?_cons_zero]
  repeat (refine r_read ?_ (by kernel_rfl) ?_ (fun K hK => ?_); rotate_left 1; (intro W hR; clear hR; go_simp; try with_reducible rfl); go_simp; refine hK _ ?_; clear hK K)
  refine r_nil1 ?_
  refine r_op rfl (fun K hK => ?_)
  go_simp
  have HR1 : Hid (Below w2.heap.size w2 ((w2.alloc (Obj.cells Z.toArray 165)).alloc (Obj.cells #[Value.int IntKind.u32 m, Value.slice (some ⟨w2.heap.size, 0, none⟩) n n] 255)).drew) := (((Below.refl _ w2).alloc (Nat.le_refl _) _).alloc (by rw [size_alloc]; omega) _).drew
  refine hK _ _ HR1.out ?_
  clear hK K
  refine r_segs ?_
  simp only [opsOf]
  refine r_nil1 ?_
  refine r_op rfl (fun K hK => ?_)
  go_simp
  refine hK _ _ HR1.out ?_
  clear hK K
  refine r_end ?_
  have HZ4 : Hid (((w2.alloc (Obj.cells Z.toArray 165)).alloc (Obj.cells #[Value.int IntKind.u32 m, Value.slice (some ⟨w2.heap.size, 0, none⟩) n n] 255)).drew.heap[w2.heap.size + 1]? = some (.cells #[Value.int IntKind.u32 m, Value.slice (some ⟨w2.heap.size, 0, none⟩) n n] 255 (0, 0))) := by
    have h := heap_alloc_last (w2.alloc (Obj.cells Z.toArray 165)) (Obj.cells #[Value.int IntKind.u32 m, Value.slice (some ⟨w2.heap.size, 0, none⟩) n n] 255)
    rw [size_alloc] at h
    exact h
  have HR4 : Hid (((w2.alloc (Obj.cells Z.toArray 165)).alloc (Obj.cells #[Value.int IntKind.u32 m, Value.slice (some ⟨w2.heap.size, 0, none⟩) n n] 255)).drew.heap[w2.heap.size]? = some (.cells Z.toArray 165 (0, 0))) := at_alloc (heap_alloc_last w2 _)
  clear hc0 hc1 hmk HR0 hr'
  generalize ((w2.alloc (Obj.cells Z.toArray 165)).alloc (Obj.cells #[Value.int IntKind.u32 m, Value.slice (some ⟨w2.heap.size, 0, none⟩) n n] 255)).drew = W3 at HR1 HZ4 HR4 ⊢
  obtain ⟨g, hg⟩ : ∃ g, g = w2.heap.size := ⟨_, rfl⟩
  obtain ⟨b', hb'⟩ : ∃ b', b' = g + 1 := ⟨_, rfl⟩
  rw [← hg] at HZ4 HR4 ⊢
  rw [← hb'] at HZ4 ⊢
  have HBG := Lib.hid hb'
  have HGE := Lib.hid hg
  clear hb' hg
  have hc1 := (HR1.out.cell HLb.out).trans (cell_at (j := 1) HB2b.out rfl)
  have h41 := cell_at (j := 1) HZ4.out rfl
  go_upto_region 25 with (fail)
  refine region_tail 8 (by kernel_rfl) (by kernel_rfl) ?_
  simp only [List.take_succ_cons, List.take_zero, List.drop_succ_cons, List.drop_zero]
  repeat still_step
  refine wpStill_nil ?_
  refine wpList_copy_kk rfl (.tmp 185) (.tmp 189) 253 253 rfl 165 1 Try.underlying253 size165 (some ⟨g, 0, none⟩) (some ⟨nb, 0, none⟩) n n n cap rfl rfl g 0 Z 165 HR4.out L n (Nat.min_self _).symm (by rw [HLL.out.1, Nat.mul_one]) (fun _ => ⟨rfl, _, rfl, fun k v hv => ?_⟩) (by rw [HLL.out.1, HZL.out]; omega)
    (fun v hv => by obtain ⟨k, hk⟩ := List.getElem?_of_mem hv; exact (HLL.out.2 k v hk).2) ?_
  · rw [addr_add, Nat.zero_add]
    exact (HR1.out.cell (p := ⟨nb, k, none⟩) (lt_of_block HB2n.out)).trans (cell_at HB2n.out (HLL.out.2 k v hv).1)
  intro W4 hg4 hb4
  have HR5 : Hid (Below w2.heap.size w2 W4) := But.below' HR1.out.drew (by have := HGE.out; omega) HR1.out.size hb4.out
  have HZ5 : Hid (W4.heap[b']? = some (.cells #[.int .u32 (m : Int), .slice (some ⟨g, 0, none⟩) n n] 255 (0, 0))) := (hb4.out.block b' (lt_of_block HZ4.out) (by have := HBG.out; omega)).trans HZ4.out
  have hrow := hg4.out
  rw [splice_all (by rw [HLL.out.1, HZL.out]; omega), List.drop_of_length_le (by rw [HLL.out.1, HZL.out]; omega), List.append_nil] at hrow
  have HROW := Lib.hid hrow
  clear hrow hg4 hb4 HR1 HZ4 HR4 hc1 h41
  clear W3
  have h51 := cell_at (j := 1) HZ5.out rfl
  obtain ⟨vi, hvi⟩ : ∃ vi, L[i]? = some vi := ⟨L[i]'(by rw [HLL.out.1]; exact hin), List.getElem?_eq_getElem _⟩
  have hg0 : W4.cell? ⟨g, i, none⟩ = some vi := cell_at HROW.out (by rw [List.getElem?_toArray]; exact hvi)
  have hf0 : W4.frozen? ⟨g, i, none⟩ = false := frozen_of_row _ _ _ _ _ HROW.out
  go_wp2
  go_ret
  have hge := HGE.out
  have hbg := HBG.out
  refine ⟨w2, _, HQ.out, HB2.out, HF2.out, b', g, rfl, by omega, by omega, ?_, ?_, HR5.out.setCell (by show w2.heap.size ≤ g; omega) _⟩
  · rw [heap_setCell_other _ _ _ _ (by show b' ≠ g; omega), List.length_set, HLL.out.1]
    exact HZ5.out
  · exact (heap_setCell_same _ _ _ _ _ _ HROW.out).trans (by rw [List.setIfInBounds_toArray])
end Go.Proofs.Ytpkndcmgialgcaa

namespace Go.Proofs.Ytpkndcmgialgcaa
open Go.RowKit

set_option maxRecDepth 100000 in
set_option maxHeartbeats 1600000 in
theorem bmp_del_y (H : Value) (b rb nb n cap : Nat) (arr : Array Value) (sf hh : Nat) (key : Int) (_mt : Bool) (j m i : Nat) (hj : j < 32) (hs : sf < 32) (hb : bits BinOp.and IntKind.u32 ((hh : Int) / 2 ^ sf) 31 = (j : Int)) (w : World)
    (hz : (bits BinOp.and IntKind.u32 (m : Int) (2 ^ j % 4294967296) == 0) = false)
    (mr : Nat) (hr : bits BinOp.and IntKind.u32 m ((2 ^ j - 1) % 4294967296) = (mr : Int)) (hmr : mr < 4294967296) (hi : i = cnt mr.testBit 32) (hin : i < n) (hn : n ≤ 32) (L : List Value) (hL : L.length = n) (hcs : ∀ (k : Nat) (v : Value), L[k]? = some v → arr[k]? = some v ∧ v.oneCell' = true) (hn1 : 1 < n) (hcap : n ≤ cap) (m' : Nat) (hxor : bits BinOp.xor IntKind.u32 (m : Int) (2 ^ j % 4294967296) = (m' : Int))
    (hblk : w.heap[b]? = some (.cells #[.int .u32 m, .slice (some ⟨nb, 0, none⟩) n cap] 255 (0, 0))) (hnb : w.heap[nb]? = some (.cells arr 165 (0, 0)))
    (hne : b ≠ rb) (hne2 : nb ≠ rb) (p t fid : Nat) (hc : arr[i]? = some (.iface t (.pointer (some ⟨p, 0, none⟩))))
    (hd : Disp t (.pointer (some ⟨p, 0, none⟩)) fid "pub-frond/pub/immutable.delete")
    (hcall : ∀ w1, Below w.heap.size w w1 → Calls Try.prog fid #[.pointer (some ⟨p, 0, none⟩), .int .i64 key, .int .u64 (sf + 5 : Nat), .int .u32 hh, H, .bool false, .pointer (some ⟨rb, 0, none⟩)] w1 fun e w2 => e = .returned .nilIface ∧ But (· = rb) w w2 ∧ Flag w2 rb true) :
    Calls Try.prog 198 #[.pointer (some ⟨b, 0, none⟩), .int .i64 key, .int .u64 sf, .int .u32 hh, H, .bool false, .pointer (some ⟨rb, 0, none⟩)] w fun e w' =>
      ∃ w2, But (· = rb) w w2 ∧ Flag w2 rb true ∧ BmpPost w2 m' (L.take i ++ L.drop (i + 1)) e w' := by
  have hc0 := cell_at (j := 0) hblk rfl
  have hc1 := cell_at (j := 1) hblk rfl
  have hci := cell_at hnb hc
  have HL0 := Lib.hid (lt_of_block hblk)
  have HL1 := Lib.hid (lt_of_block hnb)
  obtain ⟨h1, h2, h3⟩ := hd
  have H4 := Lib.hid hcall
  have HP : ∀ w, Hid (Calls Try.prog 201 #[.int .u32 mr] w fun e w' => e = .returned (.int .i64 (i : Nat)) ∧ Below w.heap.size w w') := fun w => by
    have hp := pop_w (mr : Int) w (by omega) (by omega)
    rw [Int.toNat_natCast, ← hi] at hp
    exact Lib.hid hp
  have HBLK := Lib.hid hblk
  have HNB := Lib.hid hnb
  have HNE := Lib.hid (And.intro hne hne2)
  have HN := Lib.hid hn
  clear hcall hblk hnb hne hne2 hi hmr hc hn
  have HLL := Lib.hid (And.intro hL hcs)
  clear hL hcs
  go_enter Try.func198, Try.ntmps198
  go_wp2_with fail
  with_reducible refine (HP _).out.mono ?_
  rintro e w1 ⟨rfl, hb1⟩
  have HB1 := Lib.hid hb1
  have hc0' := (hb1.cell HL0.out).trans hc0
  have hc1' := (hb1.cell HL0.out).trans hc1
  have hci' := (hb1.cell HL1.out).trans hci
  clear hb1
  go_wp2_with fail
  refine (H4.out _ HB1.out).mono ?_
  rintro e w2 ⟨rfl, hb2, hf2⟩
  have HB2 := Lib.hid hb2
  have HF2 := Lib.hid hf2
  clear hb2 hf2 hc0' hc1' hci' hc0 hc1 hci HB1
  have hr' := cell_at (j := 0) HF2.out rfl
  have HB2b := Lib.hid (HB2.out.at HBLK.out HNE.out.1)
  have HB2n := Lib.hid (HB2.out.at HNB.out HNE.out.2)
  have hc0 := cell_at (j := 0) HB2b.out rfl
  have hc1 := cell_at (j := 1) HB2b.out rfl
  have HLb := Lib.hid (lt_of_block HB2b.out)
  have h1n : ((n : Int) == 1) = false := by simp; omega
  obtain ⟨N, hN⟩ : ∃ N, N = n - 1 := ⟨_, rfl⟩
  have hw1 : IntKind.i64.wrap ((n : Int) - 1) = (N : Int) := by rw [IntKind.wrap_i64]; have := HN.out; omega
  have hw2 : (n : Int) - 1 = (N : Int) := by omega
  have hw3 : IntKind.i64.wrap (N : Int) = (N : Int) := by rw [IntKind.wrap_i64]; have := HN.out; omega
  obtain ⟨Z, hZl, hmk⟩ := make253 w2.drew N (by have := HN.out; omega)
  have HZL := Lib.hid hZl
  have HNN := Lib.hid hN
  clear hZl hN
  go_upto_region 18 with (fail)
  have HR0 : Hid (Below w2.heap.size w2 w2.drew) := (Below.refl _ w2).drew
  refine region_segsR (fun W => Below w2.heap.size w2 W) [([0, 1, 2, 3, 4, 5, 6, 7, 8, 9, 10, 11], [12]), ([13], [14]), ([], [15])] (by kernel_rfl) (by intro dst v c a w h; cases dst <;> exact h) (by kernel_rfl) HR0.out ?_
  refine r_segs ?_
  simp only [opsOf, List.getElem?_toArray, List.getElem?_cons_succ, List.getElem?_cons_zero]
  repeat (refine r_read ?_ (by kernel_rfl) ?_ (fun K hK => ?_); rotate_left 1; (intro W hR; have hc0 := (hR.cell HLb.out).trans hc0; have hc1 := (hR.cell HLb.out).trans hc1; clear hR; go_simp; try with_reducible rfl); go_simp; refine hK _ ?_; clear hK K)
  refine r_nil1 ?_
  refine r_op rfl (fun K hK => ?_)
  go_simp
  refine hK _ _ (HR0.out.alloc (Nat.le_refl _) _) ?_
  clear hK K
  refine r_segs ?_
  simp only [opsOf, List.getElem?_toArray, List.getElem?_cons_succ, List.getElem?_cons_zero]
  repeat (refine r_read ?_ (by kernel_rfl) ?_ (fun K hK => ?_); rotate_left 1; (intro W hR; clear hR; go_simp; try with_reducible rfl); go_simp; refine hK _ ?_; clear hK K)
  refine r_nil1 ?_
  refine r_op rfl (fun K hK => ?_)
  go_simp
  have HR1 : Hid (Below w2.heap.size w2 ((w2.alloc (Obj.cells Z.toArray 165)).alloc (Obj.cells #[Value.int IntKind.u32 m', Value.slice (some ⟨w2.heap.size, 0, none⟩) N N] 255)).drew) := (((Below.refl _ w2).alloc (Nat.le_refl _) _).alloc (by rw [size_alloc]; omega) _).drew
  refine hK _ _ HR1.out ?_
  clear hK K
  refine r_segs ?_
  simp only [opsOf]
  refine r_nil1 ?_
  refine r_op rfl (fun K hK => ?_)
  go_simp
  refine hK _ _ HR1.out ?_
  clear hK K
  refine r_end ?_
  have HZ4 : Hid (((w2.alloc (Obj.cells Z.toArray 165)).alloc (Obj.cells #[Value.int IntKind.u32 m', Value.slice (some ⟨w2.heap.size, 0, none⟩) N N] 255)).drew.heap[w2.heap.size + 1]? = some (.cells #[Value.int IntKind.u32 m', Value.slice (some ⟨w2.heap.size, 0, none⟩) N N] 255 (0, 0))) := by
    have h := heap_alloc_last (w2.alloc (Obj.cells Z.toArray 165)) (Obj.cells #[Value.int IntKind.u32 m', Value.slice (some ⟨w2.heap.size, 0, none⟩) N N] 255)
    rw [size_alloc] at h
    exact h
  have HR4 : Hid (((w2.alloc (Obj.cells Z.toArray 165)).alloc (Obj.cells #[Value.int IntKind.u32 m', Value.slice (some ⟨w2.heap.size, 0, none⟩) N N] 255)).drew.heap[w2.heap.size]? = some (.cells Z.toArray 165 (0, 0))) := at_alloc (heap_alloc_last w2 _)
  clear hc0 hc1 hmk HR0 hr' hw1 hw2 hw3 h1n
  generalize ((w2.alloc (Obj.cells Z.toArray 165)).alloc (Obj.cells #[Value.int IntKind.u32 m', Value.slice (some ⟨w2.heap.size, 0, none⟩) N N] 255)).drew = W3 at HR1 HZ4 HR4 ⊢
  obtain ⟨g, hg⟩ : ∃ g, g = w2.heap.size := ⟨_, rfl⟩
  obtain ⟨b', hb'⟩ : ∃ b', b' = g + 1 := ⟨_, rfl⟩
  rw [← hg] at HZ4 HR4 ⊢
  rw [← hb'] at HZ4 ⊢
  have HBG := Lib.hid hb'
  have HGE := Lib.hid hg
  clear hb' hg
  have hc1 := (HR1.out.cell HLb.out).trans (cell_at (j := 1) HB2b.out rfl)
  have h41 := cell_at (j := 1) HZ4.out rfl
  have hiN : i ≤ N := by have := HNN.out; omega
  have hic : i ≤ cap := by omega
  go_upto_region 19 with (fail)
  refine region_tail 12 (by kernel_rfl) (by kernel_rfl) ?_
  simp only [List.take_succ_cons, List.take_zero, List.drop_succ_cons, List.drop_zero]
  repeat still_step
  refine wpStill_nil ?_
  obtain ⟨c1, hcc1⟩ : ∃ c1, c1 = L.take i := ⟨_, rfl⟩
  obtain ⟨c2, hcc2⟩ : ∃ c2, c2 = L.drop (i + 1) := ⟨_, rfl⟩
  have hl1 : c1.length = i := by rw [hcc1, List.length_take, HLL.out.1]; omega
  have hl2 : c2.length = N - i := by rw [hcc2, List.length_drop, HLL.out.1]; have := HNN.out; omega
  have HC := Lib.hid (And.intro hcc1 hcc2)
  have HC1 := Lib.hid hl1
  have HC2 := Lib.hid hl2
  clear hcc1 hcc2 hl1 hl2
  refine wpList_copy_kk rfl (.tmp 143) (.tmp 149) 253 253 rfl 165 1 Try.underlying253 size165 (some ⟨g, 0, none⟩) (some ⟨nb, 0, none⟩) i N i cap rfl rfl g 0 Z 165 HR4.out c1 i (Nat.min_self _).symm (by rw [HC1.out, Nat.mul_one]) (fun _ => ⟨rfl, _, rfl, fun k v hv => ?_⟩) (by rw [HC1.out, HZL.out]; omega)
    (fun v hv => by rw [HC.out.1] at hv; obtain ⟨k, hk⟩ := List.getElem?_of_mem (List.mem_of_mem_take hv); exact (HLL.out.2 k v hk).2) ?_
  · rw [addr_add, Nat.zero_add]
    have hv' : L[k]? = some v := by
      rw [HC.out.1, List.getElem?_take] at hv
      split at hv
      · exact hv
      · cases hv
    exact (HR1.out.cell (p := ⟨nb, k, none⟩) (lt_of_block HB2n.out)).trans (cell_at HB2n.out (HLL.out.2 k v hv').1)
  intro W4 HG4 hb4
  have HR5 : Hid (Below w2.heap.size w2 W4) := But.below' HR1.out.drew (by have := HGE.out; omega) HR1.out.size hb4.out
  have HZ5 : Hid (W4.heap[b']? = some (.cells #[.int .u32 (m' : Int), .slice (some ⟨g, 0, none⟩) N N] 255 (0, 0))) := (hb4.out.block b' (lt_of_block HZ4.out) (by have := HBG.out; omega)).trans HZ4.out
  clear hb4 HR1 HZ4 HR4 hc1 h41
  clear W3
  have hc1 := (HR5.out.cell HLb.out).trans (cell_at (j := 1) HB2b.out rfl)
  have h51 := cell_at (j := 1) HZ5.out rfl
  have hw2 : IntKind.i64.wrap ((i : Int) + 1) = (i : Int) + 1 := by rw [IntKind.wrap_i64]; have := HN.out; omega
  obtain ⟨d1, hd1, hs1⟩ := slice253_l g N N i hiN (Nat.le_refl _)
  obtain ⟨d2, hd2, hs2⟩ := slice253_l nb n cap (i + 1) (by omega) hcap
  have HD := Lib.hid (And.intro hd1 hd2)
  have hs2 : ∀ w : World, (Instr.slice 253 (.slice (some ⟨nb, 0, none⟩) n cap) (some (.int .i64 ((i : Int) + 1))) none none).run Try.prog w = .ok (.slice (some d2) (n - (i + 1)) (cap - (i + 1))) w := hs2
  clear hd1 hd2
  go_upto_region 20 with (fail)
  refine region_tail 13 (by kernel_rfl) (by kernel_rfl) ?_
  simp only [List.take_succ_cons, List.take_zero, List.drop_succ_cons, List.drop_zero]
  repeat still_step
  refine wpStill_nil ?_
  refine wpList_copy_kk rfl (.tmp 156) (.tmp 163) 253 253 rfl 165 1 Try.underlying253 size165 (some d1) (some d2) (N - i) (N - i) (n - (i + 1)) (cap - (i + 1)) rfl rfl g c1.length (splice Z 0 c1) 165 HG4.out c2 (N - i) (by show _ = min _ _; have := HNN.out; omega) (by rw [HC2.out, Nat.mul_one]) (fun h9 => ⟨by rw [HD.out.1 (by omega), HC1.out], d2, rfl, fun k v hv => ?_⟩) (by rw [length_splice _ _ _ (by rw [HC1.out, HZL.out]; omega), HC2.out, HC1.out, HZL.out]; omega)
    (fun v hv => by rw [HC.out.2] at hv; obtain ⟨k, hk⟩ := List.getElem?_of_mem (List.mem_of_mem_drop hv); exact (HLL.out.2 k v hk).2) ?_
  · rw [HC.out.2, List.getElem?_drop] at hv
    rw [HD.out.2 (by have := HNN.out; omega), addr_add]
    exact (HR5.out.cell (p := ⟨nb, i + 1 + k, none⟩) (lt_of_block HB2n.out)).trans (cell_at HB2n.out (HLL.out.2 _ v hv).1)
  intro W5 hr5 hb5
  have hrow := hr5.out
  rw [splice_two (by rw [HC1.out, HC2.out, HZL.out]; omega), HC.out.1, HC.out.2] at hrow
  have HROW := Lib.hid hrow
  have HR6 : Hid (Below w2.heap.size w2 W5) := But.below' HR5.out.drew (by have := HGE.out; omega) HR5.out.size hb5.out
  have HZ6 : Hid (W5.heap[b']? = some (.cells #[.int .u32 (m' : Int), .slice (some ⟨g, 0, none⟩) N N] 255 (0, 0))) := (hb5.out.block b' (lt_of_block HZ5.out) (by have := HBG.out; omega)).trans HZ5.out
  clear hb5 hr5 hrow HR5 HZ5 HG4 hc1 h51 hs1 hs2
  clear W4
  go_wp2
  go_ret
  have hge := HGE.out
  have hbg := HBG.out
  have hlen : (L.take i ++ L.drop (i + 1)).length = N := by rw [List.length_append, List.length_take, List.length_drop, HLL.out.1]; have := HNN.out; omega
  exact ⟨w2, HB2.out, HF2.out, b', g, rfl, by omega, by omega, by rw [hlen]; exact HZ6.out, HROW.out, HR6.out⟩
end Go.Proofs.Ytpkndcmgialgcaa
