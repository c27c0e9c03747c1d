/- The walks over a branch with a bitmap: set (as a copy).

The walks over a branch with a bitmap: set (as a copy) of a child that is not there. -/
import Derived.Test.YtpkndcmgialgcaaHshS
namespace Go.Proofs.Ytpkndcmgialgcaa
open Go.RowKit

theorem info165 : (Try.prog.info? 165).map (fun i => (i.size, i.bytes, i.zero)) = some (1, 16, some .nilIface) := by kernel_rfl
theorem size165 : (Try.prog.info? 165).map (·.size) = some 1 := by kernel_rfl
/-- make of a row of nodes -/
theorem make253 (w : World) (c : Nat) (hc : c ≤ 1000000000) : ∃ Z : List Value, Z.length = c ∧
    (Instr.makeSlice 253 (.int .i64 (c : Int)) (.int .i64 (c : Int))).run Try.prog w = .ok (.slice (some ⟨w.heap.size, 0, none⟩) c c) (w.alloc (.cells Z.toArray 165)) := by
  have h := info165
  cases hq : Try.prog.info? 165 with
  | none => rw [hq] at h; cases h
  | some i =>
    rw [hq] at h
    simp only [Option.map_some, Option.some.injEq, Prod.mk.injEq] at h
    obtain ⟨h1, h2, h3⟩ := h
    have hr := run_make w 253 165 i _ Try.underlying253 hq h3 .i64 .i64 c c (by omega) (Int.le_refl _) (by rw [h2]; omega) (by omega)
    rw [h1, Int.toNat_natCast, Nat.mul_one] at hr
    refine ⟨(madeCells (Value.nilIface).cells c).toList, ?_, by rw [Array.toArray_toList]; exact hr⟩
    rw [Array.length_toList, size_madeCells]

/-- a new branch with a bitmap, behind w1 -/
def BmpPost (w1 : World) (m : Nat) (L : List Value) (e : Ending) (w' : World) : Prop :=
  ∃ b' g : Nat, e = .returned (.iface 252 (.pointer (some ⟨b', 0, none⟩))) ∧ w1.heap.size ≤ b' ∧ w1.heap.size ≤ g ∧ w'.heap[b']? = some (.cells #[.int .u32 m, .slice (some ⟨g, 0, none⟩) L.length L.length] 255 (0, 0)) ∧
    w'.heap[g]? = some (.cells L.toArray 165 (0, 0)) ∧ Below w1.heap.size w1 w'

set_option maxRecDepth 100000 in
set_option maxHeartbeats 1600000 in
theorem bmp_set_k (H : Value) (b rb nb n cap : Nat) (arr : Array Value) (sf hh : Nat) (key val : Int) (j m i : Nat) (hj : j < 32) (hs : sf < 32) (hb : bits BinOp.and IntKind.u32 ((hh : Int) / 2 ^ sf) 31 = (j : Int)) (w : World)
    (hz : (bits BinOp.and IntKind.u32 (m : Int) (2 ^ j % 4294967296) != 0) = true) (hor : bits BinOp.or IntKind.u32 (m : Int) (2 ^ j % 4294967296) = (m : Int))
    (mr : Nat) (hr : bits BinOp.and IntKind.u32 m ((2 ^ j - 1) % 4294967296) = (mr : Int)) (hmr : mr < 4294967296) (hi : i = cnt mr.testBit 32) (hin : i < n) (hn : n ≤ 32)
    (hblk : w.heap[b]? = some (.cells #[.int .u32 m, .slice (some ⟨nb, 0, none⟩) n cap] 255 (0, 0))) (hnb : w.heap[nb]? = some (.cells arr 165 (0, 0))) (L : List Value) (hL : L.length = n) (hcs : ∀ (k : Nat) (v : Value), L[k]? = some v → arr[k]? = some v ∧ v.oneCell' = true)
    (hne : b ≠ rb) (hne2 : nb ≠ rb) (p t fid : Nat) (hc : arr[i]? = some (.iface t (.pointer (some ⟨p, 0, none⟩))))
    (hd : Disp t (.pointer (some ⟨p, 0, none⟩)) fid "pub-frond/pub/immutable.set") (Q : Value → World → Prop)
    (hcall : ∀ w1, Below w.heap.size w w1 → Calls Try.prog fid #[.pointer (some ⟨p, 0, none⟩), .int .i64 key, .int .i64 val, .int .u64 (sf + 5 : Nat), .int .u32 hh, H, .bool false, .pointer (some ⟨rb, 0, none⟩)] w1 fun e w2 => ∃ t q, e = .returned (.iface t (.pointer (some ⟨q, 0, none⟩))) ∧ Q (.iface t (.pointer (some ⟨q, 0, none⟩))) w2 ∧ But (· = rb) w w2) :
    Calls Try.prog 200 #[.pointer (some ⟨b, 0, none⟩), .int .i64 key, .int .i64 val, .int .u64 sf, .int .u32 hh, H, .bool false, .pointer (some ⟨rb, 0, none⟩)] w fun e w' =>
      ∃ w2 v2, Q v2 w2 ∧ But (· = rb) w w2 ∧ BmpPost w2 m (L.set i v2) e w' := by
  have hc0 := cell_at (j := 0) hblk rfl
  have hc1 := cell_at (j := 1) hblk rfl
  have hci := cell_at hnb hc
  have HL0 := Lib.hid (lt_of_block hblk)
  have HL1 := Lib.hid (lt_of_block hnb)
  obtain ⟨h1, h2, h3⟩ := hd
  have H4 := Lib.hid hcall
  have HP : ∀ w, Hid (Calls Try.prog 201 #[.int .u32 mr] w fun e w' => e = .returned (.int .i64 (i : Nat)) ∧ Below w.heap.size w w') := fun w => by
    have hp := pop_w (mr : Int) w (by omega) (by omega)
    rw [Int.toNat_natCast, ← hi] at hp
    exact Lib.hid hp
  have HBLK := Lib.hid hblk
  have HNB := Lib.hid hnb
  have HNE := Lib.hid (And.intro hne hne2)
  have HLL := Lib.hid (And.intro hL hcs)
  have HN := Lib.hid hn
  clear hcall hblk hnb hne hne2 hL hcs hi hmr hc hn
  go_enter Try.func200, Try.ntmps200
  go_wp2_with fail
  with_reducible refine (HP _).out.mono ?_
  rintro e w1 ⟨rfl, hb1⟩
  have HB1 := Lib.hid hb1
  have hc0' := (hb1.cell HL0.out).trans hc0
  have hc1' := (hb1.cell HL0.out).trans hc1
  have hci' := (hb1.cell HL1.out).trans hci
  clear hb1
  go_wp2_with fail
  refine (H4.out _ HB1.out).mono ?_
  rintro e w2 ⟨t', q, rfl, hq, hb2⟩
  have HQ := Lib.hid hq
  have HB2 := Lib.hid hb2
  clear hq hb2 hc0' hc1' hci' hc0 hc1 hci HB1
  have hc0 := cell_at (j := 0) (HB2.out.at HBLK.out HNE.out.1) rfl
  have hc1 := cell_at (j := 1) (HB2.out.at HBLK.out HNE.out.1) rfl
  go_upto_region 32 with (fail)
  have HB3 : Hid (Below w2.heap.size w2 (w2.alloc (Obj.cells #[Value.int IntKind.u32 (m : Int), Value.slice none 0 0] 255))) := (Below.refl _ _).alloc (Nat.le_refl _) _
  have HZ2 : Hid ((w2.alloc (Obj.cells #[Value.int IntKind.u32 (m : Int), Value.slice none 0 0] 255)).heap[w2.heap.size]? = some (.cells #[Value.int IntKind.u32 (m : Int), Value.slice none 0 0] 255 (0, 0))) := heap_alloc_last w2 _
  have HB2b := Lib.hid (HB2.out.at HBLK.out HNE.out.1)
  have HB2n := Lib.hid (HB2.out.at HNB.out HNE.out.2)
  clear hc0 hc1
  generalize w2.alloc (Obj.cells #[Value.int IntKind.u32 (m : Int), Value.slice none 0 0] 255) = W at HB3 HZ2 ⊢
  have hc1 := (HB3.out.cell (lt_of_block HB2b.out)).trans (cell_at (j := 1) HB2b.out rfl)
  obtain ⟨Z, hZl, hmk⟩ := make253 W n (by have := HN.out; omega)
  have HZ3 : Hid ((W.alloc (Obj.cells Z.toArray 165)).heap[w2.heap.size]? = some (.cells #[Value.int IntKind.u32 (m : Int), Value.slice none 0 0] 255 (0, 0))) := at_alloc HZ2.out
  have h31 := cell_at (j := 1) HZ3.out rfl
  have h32 : (W.alloc (Obj.cells Z.toArray 165)).frozen? ⟨w2.heap.size, 1, none⟩ = false := frozen_of_row _ _ _ _ _ HZ3.out
  have HZL := Lib.hid hZl
  clear hZl
  go_upto_region 33 with (fail)
  have hge : w2.heap.size < W.heap.size := lt_of_block HZ2.out
  have HB4 : Hid (Below w2.heap.size w2 ((W.alloc (Obj.cells Z.toArray 165)).setCell ⟨w2.heap.size, 1, none⟩ (.slice (some ⟨W.heap.size, 0, none⟩) n n))) := (HB3.out.alloc HB3.out.size _).setCell (Nat.le_refl _) _
  have HZ4 : Hid (((W.alloc (Obj.cells Z.toArray 165)).setCell ⟨w2.heap.size, 1, none⟩ (.slice (some ⟨W.heap.size, 0, none⟩) n n)).heap[w2.heap.size]? = some (.cells #[.int .u32 (m : Int), .slice (some ⟨W.heap.size, 0, none⟩) n n] 255 (0, 0))) := heap_setCell_same _ _ _ _ _ _ HZ3.out
  have HR4 : Hid (((W.alloc (Obj.cells Z.toArray 165)).setCell ⟨w2.heap.size, 1, none⟩ (.slice (some ⟨W.heap.size, 0, none⟩) n n)).heap[W.heap.size]? = some (.cells Z.toArray 165 (0, 0))) := by
    show ((W.alloc (Obj.cells Z.toArray 165)).setCell ⟨w2.heap.size, 1, none⟩ (.slice (some ⟨W.heap.size, 0, none⟩) n n)).heap[W.heap.size]? = _
    rw [heap_setCell_other _ _ _ _ (by show W.heap.size ≠ w2.heap.size; omega)]
    exact heap_alloc_last W _
  have HGE := Lib.hid hge
  clear hge hc1 h31 h32 hmk HB3 HZ2 HZ3
  generalize (W.alloc (Obj.cells Z.toArray 165)).setCell ⟨w2.heap.size, 1, none⟩ (.slice (some ⟨W.heap.size, 0, none⟩) n n) = W3 at HB4 HZ4 HR4 ⊢
  generalize W.heap.size = g at HZ4 HR4 HGE ⊢
  clear W
  have hc1 := (HB4.out.cell (lt_of_block HB2b.out)).trans (cell_at (j := 1) HB2b.out rfl)
  have h41 := cell_at (j := 1) HZ4.out rfl
  refine region_tail 8 (by kernel_rfl) (by kernel_rfl) ?_
  simp only [List.take_succ_cons, List.take_zero, List.drop_succ_cons, List.drop_zero]
  repeat still_step
  refine wpStill_nil ?_
  have HSRC : Hid (∀ k v, L[k]? = some v → W3.drew.cell? ((⟨nb, 0, none⟩ : Addr).add k) = some v) := fun k v hv => by
    rw [addr_add, Nat.zero_add]
    exact (HB4.out.cell (p := ⟨nb, k, none⟩) (lt_of_block HB2n.out)).trans (cell_at HB2n.out (HLL.out.2 k v hv).1)
  refine wpList_copy_k rfl (.tmp 188) (.tmp 192) 253 253 rfl 165 1 Try.underlying253 size165 g 0 n n ⟨nb, 0, none⟩ n cap rfl rfl Z 165 HR4.out L n (Nat.min_self _).symm (by rw [HLL.out.1, Nat.mul_one]) HSRC.out (by rw [HLL.out.1, HZL.out]; omega)
    (fun v hv => by obtain ⟨k, hk⟩ := List.getElem?_of_mem hv; exact (HLL.out.2 k v hk).2) w2.heap.size w2 HB4.out.drew (by have := HGE.out; omega) ?_
  intro W4 hg4 hb4 heq
  have HB5 := Lib.hid hb4
  have HZ5 : Hid (W4.heap[w2.heap.size]? = some (.cells #[.int .u32 (m : Int), .slice (some ⟨g, 0, none⟩) n n] 255 (0, 0))) := by
    show W4.heap[w2.heap.size]? = _
    rw [heq, setRow_other _ _ _ _ (by have := HGE.out; omega)]
    exact HZ4.out
  have hrow := hg4.out
  rw [splice_all (by rw [HLL.out.1, HZL.out]; omega), List.drop_of_length_le (by rw [HLL.out.1, HZL.out]; omega), List.append_nil] at hrow
  have HROW := Lib.hid hrow
  clear hrow hg4 hb4 heq HB4 HZ4 HR4 hc1 h41 HSRC
  clear W3
  have h51 := cell_at (j := 1) HZ5.out rfl
  obtain ⟨vi, hvi⟩ : ∃ vi, L[i]? = some vi := ⟨L[i]'(by rw [HLL.out.1]; exact hin), List.getElem?_eq_getElem _⟩
  have hg0 : W4.cell? ⟨g, i, none⟩ = some vi := cell_at HROW.out (by rw [List.getElem?_toArray]; exact hvi)
  have hf0 : W4.frozen? ⟨g, i, none⟩ = false := frozen_of_row _ _ _ _ _ HROW.out
  go_wp2
  go_ret
  have hge := HGE.out
  refine ⟨w2, _, HQ.out, HB2.out, w2.heap.size, g, rfl, Nat.le_refl _, by omega, ?_, ?_, HB5.out.setCell (by show w2.heap.size ≤ g; omega) _⟩
  · rw [heap_setCell_other _ _ _ _ (by show w2.heap.size ≠ g; omega), List.length_set, HLL.out.1]
    exact HZ5.out
  · exact (heap_setCell_same _ _ _ _ _ _ HROW.out).trans (by rw [List.setIfInBounds_toArray])
end Go.Proofs.Ytpkndcmgialgcaa

namespace Go.Proofs.Ytpkndcmgialgcaa
open Go.RowKit

theorem new_kid {L Z : List Value} (v : Value) {i : Nat} (hi : i ≤ L.length) (hz : Z.length = L.length + 1) : splice ((L.take i ++ Z.drop i).set i v) (i + 1) (L.drop i) = L.take i ++ v :: L.drop i := by
  have htl : (L.take i).length = i := by rw [List.length_take]; omega
  obtain ⟨z, hz1⟩ : ∃ z, Z.drop i = z :: Z.drop (i + 1) := ⟨Z[i]'(by omega), List.drop_eq_getElem_cons (by omega)⟩
  have h1 : (L.take i ++ Z.drop i).set i v = L.take i ++ v :: Z.drop (i + 1) := by
    rw [hz1, List.set_append_right _ _ (by omega), htl, Nat.sub_self]
    rfl
  rw [h1]
  unfold splice
  have h2 : (L.take i ++ v :: Z.drop (i + 1)).take (i + 1) = L.take i ++ [v] := by
    rw [List.take_append, htl, List.take_of_length_le (by omega), show i + 1 - i = 1 by omega]
    rfl
  have h3 : (L.take i ++ v :: Z.drop (i + 1)).drop (i + 1 + (L.drop i).length) = [] := by
    apply List.drop_eq_nil_of_le
    rw [List.length_append, htl, List.length_cons, List.length_drop, List.length_drop]
    omega
  rw [h2, h3]
  simp

theorem sl253 : Try.prog.underlying 253 = some (.slice (Try.prog.elem 253)) := by kernel_rfl
theorem elem253 (w : World) : (sizeOf (Try.prog.elem 253)).run Try.prog w = .ok 1 w := by kernel_rfl
/-- what is left of a row of nodes from a place on -/
theorem slice253_l (g N c l : Nat) (hl : l ≤ N) (_hc : N ≤ c) : ∃ d : Addr, (l < c → d = ⟨g, l, none⟩) ∧
    ∀ w : World, (Instr.slice 253 (.slice (some ⟨g, 0, none⟩) N c) (some (.int .i64 (l : Int))) none none).run Try.prog w = .ok (.slice (some d) (N - l) (c - l)) w := by
  refine ⟨if c = l then ⟨g, 0, none⟩ else ⟨g, l, none⟩, fun h => by rw [if_neg (by omega)], fun w => ?_⟩
  rw [run_slice_l w 253 _ N c sl253 .i64 l (by omega) (by omega), elem253]
  simp only [Result.andThen_ok, sliced, Int.toNat_natCast, Option.map_some, Nat.mul_one, addr_add, Nat.zero_add]
  split <;> rfl

set_option maxRecDepth 100000 in
set_option maxHeartbeats 1600000 in
theorem bmp_set_n (H : Value) (b rb nb n cap : Nat) (arr : Array Value) (sf hh : Nat) (key val : Int) (j m m' i : Nat) (hj : j < 32) (hs : sf < 32) (hb : bits BinOp.and IntKind.u32 ((hh : Int) / 2 ^ sf) 31 = (j : Int)) (w : World)
    (hz : (bits BinOp.and IntKind.u32 (m : Int) (2 ^ j % 4294967296) != 0) = false) (hor : bits BinOp.or IntKind.u32 (m : Int) (2 ^ j % 4294967296) = (m' : Int))
    (mr : Nat) (hr : bits BinOp.and IntKind.u32 m ((2 ^ j - 1) % 4294967296) = (mr : Int)) (hmr : mr < 4294967296) (hi : i = cnt mr.testBit 32) (hin : i ≤ n) (hn : n ≤ 16) (hcap : n ≤ cap)
    (hblk : w.heap[b]? = some (.cells #[.int .u32 m, .slice (some ⟨nb, 0, none⟩) n cap] 255 (0, 0))) (hnb : w.heap[nb]? = some (.cells arr 165 (0, 0))) (L : List Value) (hL : L.length = n) (hcs : ∀ (k : Nat) (v : Value), L[k]? = some v → arr[k]? = some v ∧ v.oneCell' = true)
    (r : Bool) (hf : Flag w rb r) :
    Calls Try.prog 200 #[.pointer (some ⟨b, 0, none⟩), .int .i64 key, .int .i64 val, .int .u64 sf, .int .u32 hh, H, .bool false, .pointer (some ⟨rb, 0, none⟩)] w fun e w' =>
      ∃ w2 q, But (· = rb) w w2 ∧ Flag w2 rb true ∧ w.heap.size ≤ q ∧ w2.heap[q]? = some (.cells #[.int .u32 hh, .int .i64 key, .int .i64 val] 186 (0, 0)) ∧ BmpPost w2 m' (L.take i ++ .iface 184 (.pointer (some ⟨q, 0, none⟩)) :: L.drop i) e w' := by
  have hc0 := cell_at (j := 0) hblk rfl
  have hc1 := cell_at (j := 1) hblk rfl
  have HP : ∀ w, Hid (Calls Try.prog 201 #[.int .u32 mr] w fun e w' => e = .returned (.int .i64 (i : Nat)) ∧ Below w.heap.size w w') := fun w => by
    have hp := pop_w (mr : Int) w (by omega) (by omega)
    rw [Int.toNat_natCast, ← hi] at hp
    exact Lib.hid hp
  have HNE := Lib.hid (And.intro (hf.other hblk (by decide)) (hf.other hnb (by decide)))
  have HBLK := Lib.hid hblk
  have HNB := Lib.hid hnb
  have HLL := Lib.hid (And.intro hL hcs)
  have HN := Lib.hid (And.intro hn (And.intro hin hcap))
  have HF := Lib.hid hf
  have hr' := cell_at (j := 0) hf rfl
  have hz' : w.frozen? ⟨rb, 0, none⟩ = false := frozen_of_row _ _ _ _ _ hf
  clear hblk hnb hL hcs hi hmr hf
  go_enter Try.func200, Try.ntmps200
  go_upto_region 6 with (fail)
  have HB2 : Hid (But (· = rb) w (w.setCell ⟨rb, 0, none⟩ (.bool true))) := (But.refl _ w).set _
  have HF2 : Hid (Flag (w.setCell ⟨rb, 0, none⟩ (.bool true)) rb true) := HF.out.set true
  clear hr' hz' hc0 hc1
  generalize w.setCell ⟨rb, 0, none⟩ (.bool true) = w0 at HB2 HF2 ⊢
  have hc0 := cell_at (j := 0) (HB2.out.at HBLK.out HNE.out.1) rfl
  go_wp2_with fail
  with_reducible refine (HP _).out.mono ?_
  rintro e w1 ⟨rfl, hb1⟩
  have HB3 := Lib.hid (HB2.out.trans (But.of_below hb1))
  have HF3 := Lib.hid (HF2.out.below hb1)
  clear hb1 hc0 HB2 HF2
  clear w0
  go_wp2_with fail
  refine (newval_w _ _ _ _).mono ?_
  rintro e w2' ⟨rfl, rfl⟩
  have HB4 : Hid (But (· = rb) w (w1.alloc (.cells #[.int .u32 hh, .int .i64 key, .int .i64 val] 186))) := HB3.out.alloc _
  have HF4 : Hid (Flag (w1.alloc (.cells #[.int .u32 hh, .int .i64 key, .int .i64 val] 186)) rb true) := at_alloc HF3.out
  have HV4 : Hid ((w1.alloc (.cells #[.int .u32 hh, .int .i64 key, .int .i64 val] 186)).heap[w1.heap.size]? = some (.cells #[.int .u32 hh, .int .i64 key, .int .i64 val] 186 (0, 0))) := heap_alloc_last w1 _
  have HQ4 := Lib.hid HB3.out.size
  clear HB3 HF3
  generalize w1.alloc (.cells #[.int .u32 hh, .int .i64 key, .int .i64 val] 186) = w2 at HB4 HF4 HV4 ⊢
  generalize w1.heap.size = q at HV4 HQ4 ⊢
  clear w1
  have HB2b := Lib.hid (HB4.out.at HBLK.out HNE.out.1)
  have HB2n := Lib.hid (HB4.out.at HNB.out HNE.out.2)
  have hc0 := cell_at (j := 0) HB2b.out rfl
  have hc1 := cell_at (j := 1) HB2b.out rfl
  have h16 : decide ((16 : Int) < (n : Int)) = false := by simp; omega
  have h16' : ¬ 16 < n := by omega
  go_upto_region 35 with (fail)
  have HB3 : Hid (Below w2.heap.size w2 (w2.alloc (Obj.cells #[Value.int IntKind.u32 (m' : Int), Value.slice none 0 0] 255))) := (Below.refl _ _).alloc (Nat.le_refl _) _
  have HZ2 : Hid ((w2.alloc (Obj.cells #[Value.int IntKind.u32 (m' : Int), Value.slice none 0 0] 255)).heap[w2.heap.size]? = some (.cells #[Value.int IntKind.u32 (m' : Int), Value.slice none 0 0] 255 (0, 0))) := heap_alloc_last w2 _
  clear hc0 hc1 h16 h16'
  generalize w2.alloc (Obj.cells #[Value.int IntKind.u32 (m' : Int), Value.slice none 0 0] 255) = W at HB3 HZ2 ⊢
  have hc1 := (HB3.out.cell (lt_of_block HB2b.out)).trans (cell_at (j := 1) HB2b.out rfl)
  obtain ⟨N, hN⟩ : ∃ N, N = n + 1 := ⟨_, rfl⟩
  have hw : (n : Int) + 1 = (N : Int) := by omega
  have hw1 : IntKind.i64.wrap ((n : Int) + 1) = (N : Int) := by rw [IntKind.wrap_i64]; omega
  obtain ⟨Z, hZl, hmk⟩ := make253 W N (by omega)
  have HZ3 : Hid ((W.alloc (Obj.cells Z.toArray 165)).heap[w2.heap.size]? = some (.cells #[Value.int IntKind.u32 (m' : Int), Value.slice none 0 0] 255 (0, 0))) := at_alloc HZ2.out
  have h31 := cell_at (j := 1) HZ3.out rfl
  have h32 : (W.alloc (Obj.cells Z.toArray 165)).frozen? ⟨w2.heap.size, 1, none⟩ = false := frozen_of_row _ _ _ _ _ HZ3.out
  have HZL := Lib.hid hZl
  have HNN := Lib.hid hN
  clear hZl hN
  go_upto_region 36 with (fail)
  have hge : w2.heap.size < W.heap.size := lt_of_block HZ2.out
  have HB5 : Hid (Below w2.heap.size w2 ((W.alloc (Obj.cells Z.toArray 165)).setCell ⟨w2.heap.size, 1, none⟩ (.slice (some ⟨W.heap.size, 0, none⟩) N N))) := (HB3.out.alloc HB3.out.size _).setCell (Nat.le_refl _) _
  have HZ4 : Hid (((W.alloc (Obj.cells Z.toArray 165)).setCell ⟨w2.heap.size, 1, none⟩ (.slice (some ⟨W.heap.size, 0, none⟩) N N)).heap[w2.heap.size]? = some (.cells #[.int .u32 (m' : Int), .slice (some ⟨W.heap.size, 0, none⟩) N N] 255 (0, 0))) := heap_setCell_same _ _ _ _ _ _ HZ3.out
  have HR4 : Hid (((W.alloc (Obj.cells Z.toArray 165)).setCell ⟨w2.heap.size, 1, none⟩ (.slice (some ⟨W.heap.size, 0, none⟩) N N)).heap[W.heap.size]? = some (.cells Z.toArray 165 (0, 0))) := by
    show ((W.alloc (Obj.cells Z.toArray 165)).setCell ⟨w2.heap.size, 1, none⟩ (.slice (some ⟨W.heap.size, 0, none⟩) N N)).heap[W.heap.size]? = _
    rw [heap_setCell_other _ _ _ _ (by show W.heap.size ≠ w2.heap.size; omega)]
    exact heap_alloc_last W _
  have HGE := Lib.hid hge
  clear hge hc1 h31 h32 hmk HB3 HZ2 HZ3 hw hw1
  generalize (W.alloc (Obj.cells Z.toArray 165)).setCell ⟨w2.heap.size, 1, none⟩ (.slice (some ⟨W.heap.size, 0, none⟩) N N) = W3 at HB5 HZ4 HR4 ⊢
  generalize W.heap.size = g at HZ4 HR4 HGE ⊢
  clear W
  have hc1 := (HB5.out.cell (lt_of_block HB2b.out)).trans (cell_at (j := 1) HB2b.out rfl)
  have h41 := cell_at (j := 1) HZ4.out rfl
  have hicap : i ≤ cap := by omega
  refine region_tail 10 (by kernel_rfl) (by kernel_rfl) ?_
  simp only [List.take_succ_cons, List.take_zero, List.drop_succ_cons, List.drop_zero]
  repeat still_step
  refine wpStill_nil ?_
  have HSRC : Hid (∀ k v, (L.take i)[k]? = some v → W3.drew.cell? ((⟨nb, 0, none⟩ : Addr).add k) = some v) := fun k v hv => by
    rw [addr_add, Nat.zero_add]
    rw [List.getElem?_take] at hv
    split at hv
    · exact (HB5.out.cell (p := ⟨nb, k, none⟩) (lt_of_block HB2n.out)).trans (cell_at HB2n.out (HLL.out.2 k v hv).1)
    · cases hv
  have htl : (L.take i).length = i := by rw [List.length_take, HLL.out.1]; omega
  refine wpList_copy_k rfl (.tmp 214) (.tmp 220) 253 253 rfl 165 1 Try.underlying253 size165 g 0 N N ⟨nb, 0, none⟩ i cap rfl rfl Z 165 HR4.out (L.take i) i (by have := HNN.out; show _ = min _ _; omega) (by rw [htl, Nat.mul_one]) HSRC.out (by rw [htl, HZL.out]; have := HNN.out; omega)
    (fun v hv => by obtain ⟨k, hk⟩ := List.getElem?_of_mem hv; rw [List.getElem?_take] at hk; split at hk; · exact (HLL.out.2 k v hk).2
                    · cases hk) w2.heap.size w2 HB5.out.drew (by have := HGE.out; omega) ?_
  intro W4 hg4 hb4 heq
  have HB6 := Lib.hid hb4
  have HZ5 : Hid (W4.heap[w2.heap.size]? = some (.cells #[.int .u32 (m' : Int), .slice (some ⟨g, 0, none⟩) N N] 255 (0, 0))) := by
    show W4.heap[w2.heap.size]? = _
    rw [heq, setRow_other _ _ _ _ (by have := HGE.out; omega)]
    exact HZ4.out
  have hrow := hg4.out
  rw [splice_all (by rw [htl, HZL.out]; have := HNN.out; omega), htl] at hrow
  obtain ⟨X1, hX1⟩ : ∃ X1, X1 = L.take i ++ Z.drop i := ⟨_, rfl⟩
  have HXL : Hid (X1.length = N) := by show X1.length = N; rw [hX1, List.length_append, htl, List.length_drop, HZL.out]; have := HNN.out; omega
  rw [← hX1] at hrow
  have HROW := Lib.hid hrow
  have HX1 := Lib.hid hX1
  clear hrow hg4 hb4 heq HB5 HZ4 HR4 hc1 h41 HSRC hX1 htl
  clear W3
  have h51 := cell_at (j := 1) HZ5.out rfl
  have hiN : i < N := by have := HNN.out; omega
  obtain ⟨vi, hvi⟩ : ∃ vi, X1[i]? = some vi := ⟨X1[i]'(by rw [HXL.out]; exact hiN), List.getElem?_eq_getElem _⟩
  have hg0 : W4.cell? ⟨g, i, none⟩ = some vi := cell_at HROW.out (by rw [List.getElem?_toArray]; exact hvi)
  have hf0 : W4.frozen? ⟨g, i, none⟩ = false := frozen_of_row _ _ _ _ _ HROW.out
  go_upto_region 38 with (fail)
  have HB7 : Hid (Below w2.heap.size w2 (W4.setCell ⟨g, i, none⟩ (.iface 184 (.pointer (some ⟨q, 0, none⟩))))) := HB6.out.setCell (by have := HGE.out; show w2.heap.size ≤ g; omega) _
  have HZ6 : Hid ((W4.setCell ⟨g, i, none⟩ (.iface 184 (.pointer (some ⟨q, 0, none⟩)))).heap[w2.heap.size]? = some (.cells #[.int .u32 (m' : Int), .slice (some ⟨g, 0, none⟩) N N] 255 (0, 0))) := by
    show (W4.setCell ⟨g, i, none⟩ (.iface 184 (.pointer (some ⟨q, 0, none⟩)))).heap[w2.heap.size]? = _
    rw [heap_setCell_other _ _ _ _ (by have := HGE.out; show w2.heap.size ≠ g; omega)]
    exact HZ5.out
  have HR6 : Hid ((W4.setCell ⟨g, i, none⟩ (.iface 184 (.pointer (some ⟨q, 0, none⟩)))).heap[g]? = some (.cells (X1.set i (.iface 184 (.pointer (some ⟨q, 0, none⟩)))).toArray 165 (0, 0))) := by
    exact (heap_setCell_same _ _ _ _ _ _ HROW.out).trans (by rw [List.setIfInBounds_toArray])
  clear hg0 hf0 hvi h51 HB6 HZ5 HROW
  generalize W4.setCell ⟨g, i, none⟩ (.iface 184 (.pointer (some ⟨q, 0, none⟩))) = W5 at HB7 HZ6 HR6 ⊢
  clear W4
  have hc1 := (HB7.out.cell (lt_of_block HB2b.out)).trans (cell_at (j := 1) HB2b.out rfl)
  have h41 := cell_at (j := 1) HZ6.out rfl
  have hw2 : IntKind.i64.wrap ((i : Int) + 1) = (i : Int) + 1 := by rw [IntKind.wrap_i64]; omega
  have hi1 : i + 1 ≤ N := hiN
  have hinn : i ≤ n := hin
  obtain ⟨d1, hd1, hs1⟩ := slice253_l g N N (i + 1) hi1 (Nat.le_refl _)
  obtain ⟨d2, hd2, hs2⟩ := slice253_l nb n cap i hinn hcap
  have HD := Lib.hid (And.intro hd1 hd2)
  have hs1 : ∀ w : World, (Instr.slice 253 (.slice (some ⟨g, 0, none⟩) N N) (some (.int .i64 ((i : Int) + 1))) none none).run Try.prog w = .ok (.slice (some d1) (N - (i + 1)) (N - (i + 1))) w := hs1
  clear hd1 hd2
  refine region_tail 13 (by kernel_rfl) (by kernel_rfl) ?_
  simp only [List.take_succ_cons, List.take_zero, List.drop_succ_cons, List.drop_zero]
  repeat still_step
  refine wpStill_nil ?_
  have hdl : (L.drop i).length = n - i := by rw [List.length_drop, HLL.out.1]
  have hsl : (X1.set i (.iface 184 (.pointer (some ⟨q, 0, none⟩)))).length = N := by rw [List.length_set, HXL.out]
  have hge := HGE.out
  have hNn := HNN.out
  refine wpList_copy_splice rfl (.tmp 235) (.tmp 241) 253 253 rfl 165 Try.underlying253 size165 _ _ _ _ _ _ rfl rfl g (i + 1) (X1.set i (.iface 184 (.pointer (some ⟨q, 0, none⟩)))) 165 HR6.out (L.drop i) ?c1 ?c2 ?c3 ?c4 g W5.drew (Below.refl _ _) (Nat.le_refl _) ?_
  case c1 => rw [hdl]; show _ = min _ _; omega
  case c2 =>
    intro h9
    rw [hdl] at h9
    refine ⟨by rw [HD.out.1 (by omega)], d2, rfl, fun k v hv => ?_⟩
    rw [HD.out.2 (by omega), addr_add]
    rw [List.getElem?_drop] at hv
    exact (HB7.out.cell (p := ⟨nb, i + k, none⟩) (lt_of_block HB2n.out)).trans (cell_at HB2n.out (HLL.out.2 _ v hv).1)
  case c3 => rw [hdl, hsl]; omega
  case c4 =>
    intro v hv
    obtain ⟨k, hk⟩ := List.getElem?_of_mem hv
    rw [List.getElem?_drop] at hk
    exact (HLL.out.2 _ v hk).2
  intro W6 hg6 hb6
  have hrow := hg6.out
  rw [HX1.out, new_kid _ (by rw [HLL.out.1]; omega) (by rw [HZL.out, HLL.out.1]; omega)] at hrow
  have HROW := Lib.hid hrow
  have HB8 : Hid (Below w2.heap.size w2 W6) := HB7.out.drew.trans (hb6.mono (by omega))
  have HZ7 : Hid (W6.heap[w2.heap.size]? = some (.cells #[.int .u32 (m' : Int), .slice (some ⟨g, 0, none⟩) N N] 255 (0, 0))) := (hb6.block _ hge).trans HZ6.out
  clear hrow hg6 hb6 hs1 hs2 hc1 h41 hdl hsl
  go_wp2
  go_ret
  refine ⟨w2, q, HB4.out, HF4.out, HQ4.out, HV4.out, w2.heap.size, g, rfl, Nat.le_refl _, by omega, ?_, HROW.out, HB8.out⟩
  have hlen : (L.take i ++ Value.iface 184 (.pointer (some ⟨q, 0, none⟩)) :: L.drop i).length = N := by
    rw [List.length_append, List.length_cons, List.length_take, List.length_drop, HLL.out.1]; omega
  rw [hlen]
  exact HZ7.out
end Go.Proofs.Ytpkndcmgialgcaa
