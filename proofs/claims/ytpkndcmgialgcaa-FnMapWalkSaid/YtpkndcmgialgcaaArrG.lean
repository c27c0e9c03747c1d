/- The walks over a map's root of up to eight pairs: delete.

The walks over a map's root of up to eight pairs: set (as a copy).

The walk over a map's root of eight pairs that becomes a tree: set (as a copy). -/
import Derived.Test.YtpkndcmgialgcaaDelM
namespace Go.Proofs.Ytpkndcmgialgcaa
open Go.RowKit

/-- a new root of pairs -/
def ArrPost (w : World) (rb : Nat) (fl : Bool) (es' : List (Int × Int)) (e : Ending) (w' : World) : Prop :=
  ∃ b' g : Nat, e = .returned (.iface 177 (.pointer (some ⟨b', 0, none⟩))) ∧ w.heap.size ≤ b' ∧ w.heap.size ≤ g ∧ w'.heap[b']? = some (.cells #[.slice (some ⟨g, 0, none⟩) es'.length es'.length] 183 (0, 0)) ∧
    w'.heap[g]? = some (.cells (ecells es').toArray 180 (0, 0)) ∧ But (· = rb) w w' ∧ Flag w' rb fl

set_option maxRecDepth 100000 in
set_option maxHeartbeats 400000 in
theorem arr_del_n (mo mu sh : Int) (b rb : Nat) (nb c : Nat) (es : List (Int × Int)) (key : Int) (sf hh : Int) (mt : Bool) (hl : es.length < 100000000) (w : World)
    (hblk : w.heap[b]? = some (.cells #[.slice (some ⟨nb, 0, none⟩) es.length c] 183 (0, 0)))
    (hk : ∀ (i : Nat) (x : Int × Int), es[i]? = some x → w.cell? ⟨nb, i * 2, none⟩ = some (.int .i64 x.1) ∧ w.cell? ⟨nb, i * 2 + 1, none⟩ = some (.int .i64 x.2))
    (hf : Flag w rb false) (hno : ∀ y ∈ es, y.1 ≠ key) :
    Calls Try.prog 168 #[.pointer (some ⟨b, 0, none⟩), .int .i64 key, .int .u64 sf, .int .u32 hh, .iface 175 (av mo mu sh), .bool mt, .pointer (some ⟨rb, 0, none⟩)] w fun e w' => e = .returned (.iface 177 (.pointer (some ⟨b, 0, none⟩))) ∧ But (· = rb) w w' ∧ Flag w' rb false := by
  have HI := Lib.hid (idx_a mo mu sh b nb c es key w (by omega) (cell_at (j := 0) hblk rfl) (fun i y hy => (hk i y hy).1))
  have HF := Lib.hid hf
  have HN := Lib.hid hno
  clear hblk hk hf hno
  go_enter Try.func168, Try.ntmps168
  go_wp2_with fail
  refine HI.out.mono ?_
  rintro e w1 ⟨hb, ⟨rfl, -⟩ | ⟨i, y, hy, hyk, -, -⟩⟩
  · have HB := Lib.hid hb
    clear hb
    go_wp2_with fail
    go_ret
    exact ⟨rfl, But.of_below HB.out, HF.out.below HB.out⟩
  · exact absurd hyk (HN.out y (List.mem_of_getElem? hy))

set_option maxRecDepth 100000 in
set_option maxHeartbeats 400000 in
theorem arr_del_x (mo mu sh : Int) (b rb : Nat) (nb c : Nat) (es : List (Int × Int)) (key : Int) (sf hh : Int) (mt : Bool) (hl : es.length = 1) (w : World)
    (hblk : w.heap[b]? = some (.cells #[.slice (some ⟨nb, 0, none⟩) es.length c] 183 (0, 0)))
    (hk : ∀ (i : Nat) (x : Int × Int), es[i]? = some x → w.cell? ⟨nb, i * 2, none⟩ = some (.int .i64 x.1) ∧ w.cell? ⟨nb, i * 2 + 1, none⟩ = some (.int .i64 x.2))
    (hf : Flag w rb false) (y0 : Int × Int) (hy0 : y0 ∈ es) (hyk : y0.1 = key) :
    Calls Try.prog 168 #[.pointer (some ⟨b, 0, none⟩), .int .i64 key, .int .u64 sf, .int .u32 hh, .iface 175 (av mo mu sh), .bool mt, .pointer (some ⟨rb, 0, none⟩)] w fun e w' => e = .returned .nilIface ∧ But (· = rb) w w' ∧ Flag w' rb true := by
  have HI := Lib.hid (idx_a mo mu sh b nb c es key w (by omega) (cell_at (j := 0) hblk rfl) (fun i y hy => (hk i y hy).1))
  have HF := Lib.hid hf
  have HBLK := Lib.hid hblk
  have hbr := Lib.hid (hf.other hblk (by decide))
  have HY := Lib.hid (And.intro hy0 hyk)
  have HL := Lib.hid hl
  clear hblk hk hf hy0 hyk hl
  go_enter Try.func168, Try.ntmps168
  go_wp2_with fail
  refine HI.out.mono ?_
  rintro e w1 ⟨hb, ⟨rfl, hno⟩ | ⟨i', y, hy, hyk, -, rfl⟩⟩
  · exact absurd HY.out.2 (hno y0 HY.out.1)
  · have HB := Lib.hid hb
    have HF1 := Lib.hid (HF.out.below HB.out)
    have hr' := cell_at (j := 0) HF1.out rfl
    have hz' : w1.frozen? ⟨rb, 0, none⟩ = false := frozen_of_row _ _ _ _ _ HF1.out
    have hne : ((i' : Int) == -1) = false := by simp
    clear hb hy hyk
    go_upto_region 5 with (fail)
    have HB2 : Hid (But (· = rb) w (w1.setCell ⟨rb, 0, none⟩ (.bool true))) := (But.of_below HB.out).set _
    have HF2 : Hid (Flag (w1.setCell ⟨rb, 0, none⟩ (.bool true)) rb true) := HF1.out.set true
    clear hr' hz' hne HF1 HB
    generalize w1.setCell ⟨rb, 0, none⟩ (.bool true) = w2 at HB2 HF2 ⊢
    clear w1
    have hc0 := cell_at (j := 0) (HB2.out.at HBLK.out hbr.out) rfl
    have h1 : ((es.length : Int) == 1) = true := by rw [HL.out]; rfl
    go_wp2_with fail
    go_ret
    exact ⟨rfl, HB2.out, HF2.out⟩

set_option maxRecDepth 100000 in
set_option maxHeartbeats 1600000 in
theorem arr_del_c (mo mu sh : Int) (b rb : Nat) (nb c : Nat) (es : List (Int × Int)) (key : Int) (sf hh : Int) (hl : es.length < 100000000) (hl2 : 1 < es.length) (hcap : es.length ≤ c) (w : World)
    (hblk : w.heap[b]? = some (.cells #[.slice (some ⟨nb, 0, none⟩) es.length c] 183 (0, 0)))
    (hk : ∀ (i : Nat) (x : Int × Int), es[i]? = some x → w.cell? ⟨nb, i * 2, none⟩ = some (.int .i64 x.1) ∧ w.cell? ⟨nb, i * 2 + 1, none⟩ = some (.int .i64 x.2)) (hnb : nb ≠ rb)
    (hf : Flag w rb false) (y0 : Int × Int) (i : Nat) (hy0 : es[i]? = some y0) (hyk : y0.1 = key) (ho : ∀ y j, es[j]? = some y → y.1 = key → j = i) :
    Calls Try.prog 168 #[.pointer (some ⟨b, 0, none⟩), .int .i64 key, .int .u64 sf, .int .u32 hh, .iface 175 (av mo mu sh), .bool false, .pointer (some ⟨rb, 0, none⟩)] w
      (ArrPost w rb true (es.take i ++ es.drop (i + 1))) := by
  have HI := Lib.hid (idx_a mo mu sh b nb c es key w (by omega) (cell_at (j := 0) hblk rfl) (fun i y hy => (hk i y hy).1))
  have HF := Lib.hid hf
  have HBLK := Lib.hid hblk
  have hbr := Lib.hid (hf.other hblk (by decide))
  have HK := Lib.hid hk
  have HO := Lib.hid ho
  have HY := Lib.hid (And.intro hy0 hyk)
  have HNB := Lib.hid hnb
  clear hblk hk hf ho hy0 hyk hnb
  go_enter Try.func168, Try.ntmps168
  go_wp2_with fail
  refine HI.out.mono ?_
  rintro e w1 ⟨hb, ⟨rfl, hno⟩ | ⟨i', y, hy, hyk, -, rfl⟩⟩
  · exact absurd HY.out.2 (hno y0 (List.mem_of_getElem? HY.out.1))
  · obtain rfl : i' = i := HO.out y i' hy hyk
    have hil : i' < es.length := by
      rcases Nat.lt_or_ge i' es.length with h | h
      · exact h
      · rw [List.getElem?_eq_none h] at hy; cases hy
    have HB := Lib.hid hb
    have HF1 := Lib.hid (HF.out.below HB.out)
    have hr' := cell_at (j := 0) HF1.out rfl
    have hz' : w1.frozen? ⟨rb, 0, none⟩ = false := frozen_of_row _ _ _ _ _ HF1.out
    have hne : ((i' : Int) == -1) = false := by simp
    clear hb hy hyk
    go_upto_region 5 with (fail)
    have HB2 : Hid (But (· = rb) w (w1.setCell ⟨rb, 0, none⟩ (.bool true))) := (But.of_below HB.out).set _
    have HF2 : Hid (Flag (w1.setCell ⟨rb, 0, none⟩ (.bool true)) rb true) := HF1.out.set true
    clear hr' hz' hne HF1 HB
    generalize w1.setCell ⟨rb, 0, none⟩ (.bool true) = w2 at HB2 HF2 ⊢
    clear w1
    have hc1 := cell_at (j := 0) (HB2.out.at HBLK.out hbr.out) rfl
    have h2 : ((es.length : Int) == 1) = false := by simp; omega
    obtain ⟨N, hN⟩ : ∃ N, N = es.length - 1 := ⟨_, rfl⟩
    have hw1 : IntKind.i64.wrap ((es.length : Int) - 1) = (N : Int) := by rw [IntKind.wrap_i64]; omega
    have hw2 : (es.length : Int) - 1 = (N : Int) := by omega
    have hw3 : IntKind.i64.wrap (N : Int) = (N : Int) := by rw [IntKind.wrap_i64]; omega
    obtain ⟨Z, hZl, hmk⟩ := make181 w2 N (by omega)
    have HNN := Lib.hid hN
    have HZL := Lib.hid hZl
    clear hZl hN
    go_upto_region 13 with (fail)
    have HB3 : Hid (But (· = rb) w ((w2.alloc (Obj.cells Z.toArray 180)).alloc (Obj.cells #[Value.slice (some ⟨w2.heap.size, 0, none⟩) N N] 183))) := (HB2.out.alloc _).alloc _
    have HF3 : Hid (Flag ((w2.alloc (Obj.cells Z.toArray 180)).alloc (Obj.cells #[Value.slice (some ⟨w2.heap.size, 0, none⟩) N N] 183)) rb true) := at_alloc (at_alloc HF2.out)
    have HZ4 : Hid (((w2.alloc (Obj.cells Z.toArray 180)).alloc (Obj.cells #[Value.slice (some ⟨w2.heap.size, 0, none⟩) N N] 183)).heap[w2.heap.size + 1]? = some (.cells #[Value.slice (some ⟨w2.heap.size, 0, none⟩) N N] 183 (0, 0))) := by
      have h := heap_alloc_last (w2.alloc (Obj.cells Z.toArray 180)) (Obj.cells #[Value.slice (some ⟨w2.heap.size, 0, none⟩) N N] 183)
      rw [size_alloc] at h
      exact h
    have HR4 : Hid (((w2.alloc (Obj.cells Z.toArray 180)).alloc (Obj.cells #[Value.slice (some ⟨w2.heap.size, 0, none⟩) N N] 183)).heap[w2.heap.size]? = some (.cells Z.toArray 180 (0, 0))) := at_alloc (heap_alloc_last w2 _)
    have HGE : Hid (w.heap.size ≤ w2.heap.size) := HB2.out.size
    clear hc1 hmk hw1 hw2 hw3 HB2 HF2 h2
    generalize ((w2.alloc (Obj.cells Z.toArray 180)).alloc (Obj.cells #[Value.slice (some ⟨w2.heap.size, 0, none⟩) N N] 183)) = W3 at HB3 HF3 HZ4 HR4 ⊢
    generalize w2.heap.size = g at HZ4 HR4 HGE ⊢
    clear w2
    obtain ⟨b', hb'⟩ : ∃ b', b' = g + 1 := ⟨_, rfl⟩
    rw [← hb'] at HZ4 ⊢
    have HBG := Lib.hid hb'
    clear hb'
    have hc1 := cell_at (j := 0) (HB3.out.at HBLK.out hbr.out) rfl
    have h41 := cell_at (j := 0) HZ4.out rfl
    have hiN : i' ≤ N := by have := HNN.out; omega
    have hic : i' ≤ c := by omega
    refine region_tail 12 (by kernel_rfl) (by kernel_rfl) ?_
    simp only [List.take_succ_cons, List.take_zero, List.drop_succ_cons, List.drop_zero]
    repeat still_step
    refine wpStill_nil ?_
    obtain ⟨c1, hcc1⟩ : ∃ c1, c1 = ecells (es.take i') := ⟨_, rfl⟩
    obtain ⟨c2, hcc2⟩ : ∃ c2, c2 = ecells (es.drop (i' + 1)) := ⟨_, rfl⟩
    have hl1 : c1.length = i' * 2 := by rw [hcc1, ecells_len, List.length_take]; congr 1; omega
    have hl2 : c2.length = (N - i') * 2 := by rw [hcc2, ecells_len, List.length_drop]; congr 1; have := HNN.out; omega
    have HC := Lib.hid (And.intro hcc1 hcc2)
    have HC1 := Lib.hid hl1
    have HC2 := Lib.hid hl2
    clear hcc1 hcc2 hl1 hl2
    have hnbs : nb < w.heap.size := World.block_lt_of_cell? w _ (HK.out i' y0 HY.out.1).1
    have HSRC : ∀ W, But (· = rb) w W → ∀ j v, (ecells es)[j]? = some v → W.cell? ((⟨nb, 0, none⟩ : Addr).add j) = some v := fun W hW => by
      refine src_cells fun i y hy => ?_
      have h6 := hW.block nb hnbs HNB.out
      exact ⟨by rw [World.cell?, h6]; exact (HK.out i y hy).1, by rw [World.cell?, h6]; exact (HK.out i y hy).2⟩
    have HSRC := Lib.hid HSRC
    refine wpList_copy_kk rfl (.tmp 90) (.tmp 96) 181 181 rfl 180 2 Try.underlying181 size180 (some ⟨g, 0, none⟩) (some ⟨nb, 0, none⟩) i' N i' c rfl rfl g 0 Z 180 HR4.out c1 i' (Nat.min_self _).symm HC1.out (fun _ => ⟨rfl, _, rfl, fun j v hj => HSRC.out _ HB3.out.drew j v ?_⟩) (by rw [HC1.out, HZL.out]; omega) (by rw [HC.out.1]; exact ecells_one) ?_
    · rw [ecells_take es i', ← HC.out.1, List.getElem?_append_left (List.getElem?_eq_some_iff.1 hj).1]
      exact hj
    intro W4 HR5 hb4
    have HB4 : Hid (But (· = rb) w W4) := But.more HB3.out.drew HGE.out hb4.out
    have HF4 : Hid (Flag W4 rb true) := (hb4.out.block rb (lt_of_block HF3.out) (by have := lt_of_block HF.out; have := HGE.out; omega)).trans HF3.out
    have HZ5 : Hid (W4.heap[b']? = some (.cells #[.slice (some ⟨g, 0, none⟩) N N] 183 (0, 0))) := (hb4.out.block b' (lt_of_block HZ4.out) (by have := HBG.out; omega)).trans HZ4.out
    clear hb4 HB3 HF3 HZ4 HR4 hc1 h41
    clear W3
    have hc1 := cell_at (j := 0) (HB4.out.at HBLK.out hbr.out) rfl
    have h41 := cell_at (j := 0) HZ5.out rfl
    have hw2 : IntKind.i64.wrap ((i' : Int) + 1) = (i' : Int) + 1 := by rw [IntKind.wrap_i64]; omega
    obtain ⟨d1, hd1, hs1⟩ := slice181_l g N N i' hiN (Nat.le_refl _)
    obtain ⟨d2, hd2, hs2⟩ := slice181_l nb es.length c (i' + 1) (by omega) hcap
    have HD := Lib.hid (And.intro hd1 hd2)
    have hs2 : ∀ w : World, (Instr.slice 181 (.slice (some ⟨nb, 0, none⟩) es.length c) (some (.int .i64 ((i' : Int) + 1))) none none).run Try.prog w = .ok (.slice (some d2) (es.length - (i' + 1)) (c - (i' + 1))) w := hs2
    clear hd1 hd2
    go_upto_region 14 with (fail)
    refine region_tail 13 (by kernel_rfl) (by kernel_rfl) ?_
    simp only [List.take_succ_cons, List.take_zero, List.drop_succ_cons, List.drop_zero]
    repeat still_step
    refine wpStill_nil ?_
    refine wpList_copy_kk rfl (.tmp 103) (.tmp 110) 181 181 rfl 180 2 Try.underlying181 size180 (some d1) (some d2) (N - i') (N - i') (es.length - (i' + 1)) (c - (i' + 1)) rfl rfl g c1.length (splice Z 0 c1) 180 HR5.out c2 (N - i') (by show _ = min _ _; have := HNN.out; omega) HC2.out (fun h9 => ⟨by rw [HD.out.1 (by omega), HC1.out], d2, rfl, fun j v hj => ?_⟩) (by rw [length_splice _ _ _ (by rw [HC1.out, HZL.out]; omega), HC2.out, HC1.out, HZL.out]; omega) (by rw [HC.out.2]; exact ecells_one) ?_
    · have h7 := HSRC.out _ HB4.out.drew ((i' + 1) * 2 + j) v (by rw [ecells_take es (i' + 1), ← HC.out.2, List.getElem?_append_right (by rw [ecells_len, List.length_take]; omega), ecells_len, List.length_take]; rw [show (i' + 1) * 2 + j - min (i' + 1) es.length * 2 = j by rw [Nat.min_eq_left (by omega)]; omega]; exact hj)
      rw [addr_add, Nat.zero_add] at h7
      rw [HD.out.2 (by have := HNN.out; omega), addr_add]
      exact h7
    intro W5 hr5 hb5
    have hrow := hr5.out
    rw [splice_two (by rw [HC1.out, HC2.out, HZL.out]; omega), HC.out.1, HC.out.2, ← ecells_append] at hrow
    have HROW := Lib.hid hrow
    have HB5 : Hid (But (· = rb) w W5) := But.more HB4.out.drew HGE.out hb5.out
    have HF5 : Hid (Flag W5 rb true) := (hb5.out.block rb (lt_of_block HF4.out) (by have := lt_of_block HF.out; have := HGE.out; omega)).trans HF4.out
    have HZ6 : Hid (W5.heap[b']? = some (.cells #[.slice (some ⟨g, 0, none⟩) N N] 183 (0, 0))) := (hb5.out.block b' (lt_of_block HZ5.out) (by have := HBG.out; omega)).trans HZ5.out
    clear hb5 hr5 hrow HB4 HF4 HZ5 HR5 hc1 h41
    clear W4
    go_wp2
    go_ret
    have hlen : (es.take i' ++ es.drop (i' + 1)).length = N := by rw [List.length_append, List.length_take, List.length_drop]; have := HNN.out; omega
    exact ⟨b', g, rfl, by have := HBG.out; have := HGE.out; omega, HGE.out, by rw [hlen]; exact HZ6.out, HROW.out, HB5.out, HF5.out⟩
end Go.Proofs.Ytpkndcmgialgcaa

namespace Go.Proofs.Ytpkndcmgialgcaa
open Go.RowKit

theorem arr_end {w W : World} {rb b' g N i : Nat} {fl : Bool} {arr : Array Value} {u v : Value} {es' : List (Int × Int)} (hb : But (· = rb) w W) (hf : Flag W rb fl)
    (hz : W.heap[b']? = some (.cells #[.slice (some ⟨g, 0, none⟩) N N] 183 (0, 0))) (hr : W.heap[g]? = some (.cells arr 180 (0, 0))) (hne : b' ≠ g) (hrg : rb ≠ g) (h1 : w.heap.size ≤ b') (h2 : w.heap.size ≤ g) (hN : es'.length = N)
    (ha : (arr.setIfInBounds i u).setIfInBounds (i + 1) v = (ecells es').toArray) :
    ArrPost w rb fl es' (.returned (.iface 177 (.pointer (some ⟨b', 0, none⟩)))) ((W.setCell ⟨g, i, none⟩ u).setCell ⟨g, i + 1, none⟩ v) := by
  refine ⟨b', g, rfl, h1, h2, ?_, ?_, ((hb.setCell (.inr h2) _).setCell (.inr h2) _), ?_⟩
  · rw [heap_setCell_other _ _ _ _ hne, heap_setCell_other _ _ _ _ hne, hN]
    exact hz
  · rw [← ha]
    exact heap_setCell_same _ _ _ _ _ _ (heap_setCell_same _ _ _ _ _ _ hr)
  · show ((W.setCell ⟨g, i, none⟩ u).setCell ⟨g, i + 1, none⟩ v).heap[rb]? = _
    rw [heap_setCell_other _ _ _ _ hrg, heap_setCell_other _ _ _ _ hrg]
    exact hf

set_option maxRecDepth 100000 in
set_option maxHeartbeats 1600000 in
theorem arr_set_u (mo mu sh : Int) (b rb : Nat) (nb c : Nat) (es : List (Int × Int)) (key val : Int) (sf hh : Int) (r : Bool) (hl : es.length < 100000000) (w : World)
    (hblk : w.heap[b]? = some (.cells #[.slice (some ⟨nb, 0, none⟩) es.length c] 183 (0, 0)))
    (hk : ∀ (i : Nat) (x : Int × Int), es[i]? = some x → w.cell? ⟨nb, i * 2, none⟩ = some (.int .i64 x.1) ∧ w.cell? ⟨nb, i * 2 + 1, none⟩ = some (.int .i64 x.2)) (hnb : nb ≠ rb)
    (hf : Flag w rb r) (y0 : Int × Int) (i : Nat) (hy0 : es[i]? = some y0) (hyk : y0.1 = key) (ho : ∀ y j, es[j]? = some y → y.1 = key → j = i) :
    Calls Try.prog 171 #[.pointer (some ⟨b, 0, none⟩), .int .i64 key, .int .i64 val, .int .u64 sf, .int .u32 hh, .iface 175 (av mo mu sh), .bool false, .pointer (some ⟨rb, 0, none⟩)] w
      (ArrPost w rb r (es.set i (key, val))) := by
  have HI := Lib.hid (idx_a mo mu sh b nb c es key w (by omega) (cell_at (j := 0) hblk rfl) (fun i y hy => (hk i y hy).1))
  have HF := Lib.hid hf
  have HBLK := Lib.hid hblk
  have hbr := Lib.hid (hf.other hblk (by decide))
  have HK := Lib.hid hk
  have HO := Lib.hid ho
  have HY := Lib.hid (And.intro hy0 hyk)
  have HNB := Lib.hid hnb
  clear hblk hk hf ho hy0 hyk hnb
  go_enter Try.func171, Try.ntmps171
  go_wp2_with fail
  refine HI.out.mono ?_
  rintro e w1 ⟨hb, ⟨rfl, hno⟩ | ⟨i', y, hy, hyk, -, rfl⟩⟩
  · exact absurd HY.out.2 (hno y0 (List.mem_of_getElem? HY.out.1))
  · obtain rfl : i' = i := HO.out y i' hy hyk
    have hil : i' < es.length := by
      rcases Nat.lt_or_ge i' es.length with h | h
      · exact h
      · rw [List.getElem?_eq_none h] at hy; cases hy
    have HB := Lib.hid hb
    have HF1 := Lib.hid (HF.out.below HB.out)
    have hne : ((i' : Int) == -1) = false := by simp
    have hne2 : ((i' : Int) != -1) = true := by simp
    have hc0 := cell_at (j := 0) ((But.of_below (S := (· = rb)) HB.out).at HBLK.out hbr.out) rfl
    have HB2 : Hid (But (· = rb) w w1) := But.of_below HB.out
    clear hb hy hyk
    go_upto_region 19 with (fail)
    have HB3 : Hid (But (· = rb) w (w1.alloc (Obj.cells #[Value.slice none 0 0] 183))) := HB2.out.alloc _
    have HF3 : Hid (Flag (w1.alloc (Obj.cells #[Value.slice none 0 0] 183)) rb r) := at_alloc HF1.out
    have HZ3 : Hid ((w1.alloc (Obj.cells #[Value.slice none 0 0] 183)).heap[w1.heap.size]? = some (.cells #[Value.slice none 0 0] 183 (0, 0))) := heap_alloc_last w1 _
    have HGE := Lib.hid HB2.out.size
    clear hc0 HB2 HF1 hne hne2 HB
    generalize w1.alloc (Obj.cells #[Value.slice none 0 0] 183) = W at HB3 HF3 HZ3 ⊢
    generalize w1.heap.size = b' at HZ3 HGE ⊢
    clear w1
    have hc0 := cell_at (j := 0) (HB3.out.at HBLK.out hbr.out) rfl
    have h30 := cell_at (j := 0) HZ3.out rfl
    obtain ⟨Z, hZl, hmk⟩ := make181 W es.length (by omega)
    have HZL := Lib.hid hZl
    have HZ4 : Hid ((W.alloc (Obj.cells Z.toArray 180)).heap[b']? = some (.cells #[Value.slice none 0 0] 183 (0, 0))) := at_alloc HZ3.out
    have h31 := cell_at (j := 0) HZ4.out rfl
    have h32 : (W.alloc (Obj.cells Z.toArray 180)).frozen? ⟨b', 0, none⟩ = false := frozen_of_row _ _ _ _ _ HZ4.out
    clear hZl
    go_upto_region 20 with (fail)
    have hge : b' < W.heap.size := lt_of_block HZ3.out
    have hrl : rb < w.heap.size := lt_of_block HF.out
    have HB5 : Hid (But (· = rb) w ((W.alloc (Obj.cells Z.toArray 180)).setCell ⟨b', 0, none⟩ (.slice (some ⟨W.heap.size, 0, none⟩) es.length es.length))) := (HB3.out.alloc _).setCell (.inr HGE.out) _
    have HF5 : Hid (Flag ((W.alloc (Obj.cells Z.toArray 180)).setCell ⟨b', 0, none⟩ (.slice (some ⟨W.heap.size, 0, none⟩) es.length es.length)) rb r) := by
      show ((W.alloc (Obj.cells Z.toArray 180)).setCell ⟨b', 0, none⟩ (.slice (some ⟨W.heap.size, 0, none⟩) es.length es.length)).heap[rb]? = _
      rw [heap_setCell_other _ _ _ _ (by show rb ≠ b'; have := HGE.out; omega)]
      exact at_alloc HF3.out
    have HZ5 : Hid (((W.alloc (Obj.cells Z.toArray 180)).setCell ⟨b', 0, none⟩ (.slice (some ⟨W.heap.size, 0, none⟩) es.length es.length)).heap[b']? = some (.cells #[.slice (some ⟨W.heap.size, 0, none⟩) es.length es.length] 183 (0, 0))) := heap_setCell_same _ _ _ _ _ _ HZ4.out
    have HR5 : Hid (((W.alloc (Obj.cells Z.toArray 180)).setCell ⟨b', 0, none⟩ (.slice (some ⟨W.heap.size, 0, none⟩) es.length es.length)).heap[W.heap.size]? = some (.cells Z.toArray 180 (0, 0))) := by
      show ((W.alloc (Obj.cells Z.toArray 180)).setCell ⟨b', 0, none⟩ (.slice (some ⟨W.heap.size, 0, none⟩) es.length es.length)).heap[W.heap.size]? = _
      rw [heap_setCell_other _ _ _ _ (by show W.heap.size ≠ b'; omega)]
      exact heap_alloc_last W _
    have HBG := Lib.hid hge
    clear hge hrl hc0 h30 h31 h32 hmk HB3 HF3 HZ3 HZ4
    generalize (W.alloc (Obj.cells Z.toArray 180)).setCell ⟨b', 0, none⟩ (.slice (some ⟨W.heap.size, 0, none⟩) es.length es.length) = W3 at HB5 HF5 HZ5 HR5 ⊢
    generalize W.heap.size = g at HZ5 HR5 HBG ⊢
    clear W
    have hc0 := cell_at (j := 0) (HB5.out.at HBLK.out hbr.out) rfl
    have h41 := cell_at (j := 0) HZ5.out rfl
    refine region_tail 6 (by kernel_rfl) (by kernel_rfl) ?_
    simp only [List.take_succ_cons, List.take_zero, List.drop_succ_cons, List.drop_zero]
    repeat still_step
    refine wpStill_nil ?_
    have hnbs : nb < w.heap.size := World.block_lt_of_cell? w _ (HK.out i' y0 HY.out.1).1
    have HSRC : Hid (∀ j v, (ecells es)[j]? = some v → W3.drew.cell? ((⟨nb, 0, none⟩ : Addr).add j) = some v) := by
      refine src_cells fun i y hy => ?_
      have h6 := HB5.out.drew.block nb hnbs HNB.out
      exact ⟨by rw [World.cell?, h6]; exact (HK.out i y hy).1, by rw [World.cell?, h6]; exact (HK.out i y hy).2⟩
    refine wpList_copy_kk rfl (.tmp 109) (.tmp 113) 181 181 rfl 180 2 Try.underlying181 size180 (some ⟨g, 0, none⟩) (some ⟨nb, 0, none⟩) es.length es.length es.length c rfl rfl g 0 Z 180 HR5.out (ecells es) es.length (Nat.min_self _).symm (ecells_len es) (fun _ => ⟨rfl, _, rfl, HSRC.out⟩) (by rw [ecells_len]; have := HZL.out; omega) ecells_one ?_
    intro W4 hg4 hb4
    have HB6 : Hid (But (· = rb) w W4) := But.more HB5.out.drew (by have := HBG.out; have := HGE.out; omega) hb4.out
    have HF6 : Hid (Flag W4 rb r) := (hb4.out.block rb (lt_of_block HF5.out) (by have := lt_of_block HF.out; have := HBG.out; have := HGE.out; omega)).trans HF5.out
    have HZ6 : Hid (W4.heap[b']? = some (.cells #[.slice (some ⟨g, 0, none⟩) es.length es.length] 183 (0, 0))) := (hb4.out.block b' (lt_of_block HZ5.out) (by have := HBG.out; omega)).trans HZ5.out
    have hrow := hg4.out
    rw [splice_all (by rw [ecells_len]; have := HZL.out; omega), List.drop_of_length_le (by rw [ecells_len]; have := HZL.out; omega), List.append_nil] at hrow
    have HROW := Lib.hid hrow
    clear hrow hg4 hb4 HB5 HF5 HZ5 HR5 hc0 h41 HSRC hnbs
    clear W3
    have h51 := cell_at (j := 0) HZ6.out rfl
    obtain ⟨hg0', hg1'⟩ := ecells_at HY.out.1
    have hg0 : W4.cell? ⟨g, i' * 2, none⟩ = some (.int .i64 y0.1) := cell_at HROW.out (by rw [List.getElem?_toArray]; exact hg0')
    have hg1 : W4.cell? ⟨g, i' * 2 + 1, none⟩ = some (.int .i64 y0.2) := cell_at HROW.out (by rw [List.getElem?_toArray]; exact hg1')
    have hf0 : W4.frozen? ⟨g, i' * 2, none⟩ = false := frozen_of_row _ _ _ _ _ HROW.out
    have hf1 : W4.frozen? ⟨g, i' * 2 + 1, none⟩ = false := frozen_of_row _ _ _ _ _ HROW.out
    clear hg0' hg1'
    go_wp2
    go_ret
    have hge := HGE.out
    have hbg := HBG.out
    have hrl := lt_of_block HF.out
    exact arr_end HB6.out HF6.out HZ6.out HROW.out (by omega) (by omega) hge (by omega) (by simp) (ecells_set es i' (key, val))

set_option maxRecDepth 100000 in
set_option maxHeartbeats 1600000 in
theorem arr_set_n (mo mu sh : Int) (b rb : Nat) (nb c : Nat) (es : List (Int × Int)) (key val : Int) (sf hh : Int) (r : Bool) (hl : es.length < 8) (hpos : 0 < es.length) (w : World)
    (hblk : w.heap[b]? = some (.cells #[.slice (some ⟨nb, 0, none⟩) es.length c] 183 (0, 0)))
    (hk : ∀ (i : Nat) (x : Int × Int), es[i]? = some x → w.cell? ⟨nb, i * 2, none⟩ = some (.int .i64 x.1) ∧ w.cell? ⟨nb, i * 2 + 1, none⟩ = some (.int .i64 x.2)) (hnb : nb ≠ rb)
    (hf : Flag w rb r) (hno : ∀ y ∈ es, y.1 ≠ key) :
    Calls Try.prog 171 #[.pointer (some ⟨b, 0, none⟩), .int .i64 key, .int .i64 val, .int .u64 sf, .int .u32 hh, .iface 175 (av mo mu sh), .bool false, .pointer (some ⟨rb, 0, none⟩)] w
      (ArrPost w rb true (es ++ [(key, val)])) := by
  have HI := Lib.hid (idx_a mo mu sh b nb c es key w (by omega) (cell_at (j := 0) hblk rfl) (fun i y hy => (hk i y hy).1))
  have HF := Lib.hid hf
  have HBLK := Lib.hid hblk
  have hbr := Lib.hid (hf.other hblk (by decide))
  have HK := Lib.hid hk
  have HN := Lib.hid hno
  have HNB := Lib.hid hnb
  clear hblk hk hf hno hnb
  go_enter Try.func171, Try.ntmps171
  go_wp2_with fail
  refine HI.out.mono ?_
  rintro e w1 ⟨hb, ⟨rfl, -⟩ | ⟨i, y, hy, hyk, -, -⟩⟩
  · have HB := Lib.hid hb
    have HF1 := Lib.hid (HF.out.below HB.out)
    have hr' := cell_at (j := 0) HF1.out rfl
    have hz' : w1.frozen? ⟨rb, 0, none⟩ = false := frozen_of_row _ _ _ _ _ HF1.out
    clear hb
    go_upto_region 4 with (fail)
    have HB2 : Hid (But (· = rb) w (w1.setCell ⟨rb, 0, none⟩ (.bool true))) := (But.of_below HB.out).set _
    have HF2 : Hid (Flag (w1.setCell ⟨rb, 0, none⟩ (.bool true)) rb true) := HF1.out.set true
    clear hr' hz' HF1 HB
    generalize w1.setCell ⟨rb, 0, none⟩ (.bool true) = w2 at HB2 HF2 ⊢
    clear w1
    have hc0 := cell_at (j := 0) (HB2.out.at HBLK.out hbr.out) rfl
    have h8 : decide ((8 : Int) ≤ (es.length : Int)) = false := by simp; omega
    have h8' : ¬ 8 ≤ es.length := by omega
    go_upto_region 22 with (fail)
    have HB3 : Hid (But (· = rb) w (w2.alloc (Obj.cells #[Value.slice none 0 0] 183))) := HB2.out.alloc _
    have HF3 : Hid (Flag (w2.alloc (Obj.cells #[Value.slice none 0 0] 183)) rb true) := at_alloc HF2.out
    have HZ3 : Hid ((w2.alloc (Obj.cells #[Value.slice none 0 0] 183)).heap[w2.heap.size]? = some (.cells #[Value.slice none 0 0] 183 (0, 0))) := heap_alloc_last w2 _
    have HGE := Lib.hid HB2.out.size
    clear hc0 HB2 HF2 h8 h8'
    generalize w2.alloc (Obj.cells #[Value.slice none 0 0] 183) = W at HB3 HF3 HZ3 ⊢
    generalize w2.heap.size = b' at HZ3 HGE ⊢
    clear w2
    obtain ⟨N, hN⟩ : ∃ N, N = es.length + 1 := ⟨_, rfl⟩
    have hw : (es.length : Int) + 1 = (N : Int) := by omega
    have hw1 : IntKind.i64.wrap ((es.length : Int) + 1) = (N : Int) := by rw [IntKind.wrap_i64]; omega
    have hc0 := cell_at (j := 0) (HB3.out.at HBLK.out hbr.out) rfl
    have h30 := cell_at (j := 0) HZ3.out rfl
    obtain ⟨Z, hZl, hmk⟩ := make181 W N (by omega)
    have HZL := Lib.hid hZl
    have HZ4 : Hid ((W.alloc (Obj.cells Z.toArray 180)).heap[b']? = some (.cells #[Value.slice none 0 0] 183 (0, 0))) := at_alloc HZ3.out
    have h31 := cell_at (j := 0) HZ4.out rfl
    have h32 : (W.alloc (Obj.cells Z.toArray 180)).frozen? ⟨b', 0, none⟩ = false := frozen_of_row _ _ _ _ _ HZ4.out
    have HNN := Lib.hid hN
    clear hZl hN
    go_upto_region 23 with (fail)
    have hge : b' < W.heap.size := lt_of_block HZ3.out
    have HB5 : Hid (But (· = rb) w ((W.alloc (Obj.cells Z.toArray 180)).setCell ⟨b', 0, none⟩ (.slice (some ⟨W.heap.size, 0, none⟩) N N))) := (HB3.out.alloc _).setCell (.inr HGE.out) _
    have HF5 : Hid (Flag ((W.alloc (Obj.cells Z.toArray 180)).setCell ⟨b', 0, none⟩ (.slice (some ⟨W.heap.size, 0, none⟩) N N)) rb true) := by
      show ((W.alloc (Obj.cells Z.toArray 180)).setCell ⟨b', 0, none⟩ (.slice (some ⟨W.heap.size, 0, none⟩) N N)).heap[rb]? = _
      rw [heap_setCell_other _ _ _ _ (by show rb ≠ b'; have := HGE.out; have := lt_of_block HF.out; omega)]
      exact at_alloc HF3.out
    have HZ5 : Hid (((W.alloc (Obj.cells Z.toArray 180)).setCell ⟨b', 0, none⟩ (.slice (some ⟨W.heap.size, 0, none⟩) N N)).heap[b']? = some (.cells #[.slice (some ⟨W.heap.size, 0, none⟩) N N] 183 (0, 0))) := heap_setCell_same _ _ _ _ _ _ HZ4.out
    have HR5 : Hid (((W.alloc (Obj.cells Z.toArray 180)).setCell ⟨b', 0, none⟩ (.slice (some ⟨W.heap.size, 0, none⟩) N N)).heap[W.heap.size]? = some (.cells Z.toArray 180 (0, 0))) := by
      show ((W.alloc (Obj.cells Z.toArray 180)).setCell ⟨b', 0, none⟩ (.slice (some ⟨W.heap.size, 0, none⟩) N N)).heap[W.heap.size]? = _
      rw [heap_setCell_other _ _ _ _ (by show W.heap.size ≠ b'; omega)]
      exact heap_alloc_last W _
    have HBG := Lib.hid hge
    clear hge hc0 h30 h31 h32 hmk HB3 HF3 HZ3 HZ4 hw hw1
    generalize (W.alloc (Obj.cells Z.toArray 180)).setCell ⟨b', 0, none⟩ (.slice (some ⟨W.heap.size, 0, none⟩) N N) = W3 at HB5 HF5 HZ5 HR5 ⊢
    generalize W.heap.size = g at HZ5 HR5 HBG ⊢
    clear W
    have hc0 := cell_at (j := 0) (HB5.out.at HBLK.out hbr.out) rfl
    have h41 := cell_at (j := 0) HZ5.out rfl
    refine region_tail 6 (by kernel_rfl) (by kernel_rfl) ?_
    simp only [List.take_succ_cons, List.take_zero, List.drop_succ_cons, List.drop_zero]
    repeat still_step
    refine wpStill_nil ?_
    obtain ⟨y0, hy0⟩ : ∃ y0, es[0]? = some y0 := ⟨es[0], List.getElem?_eq_getElem hpos⟩
    have hnbs : nb < w.heap.size := World.block_lt_of_cell? w _ (HK.out 0 y0 hy0).1
    have HSRC : Hid (∀ j v, (ecells es)[j]? = some v → W3.drew.cell? ((⟨nb, 0, none⟩ : Addr).add j) = some v) := by
      refine src_cells fun i y hy => ?_
      have h6 := HB5.out.drew.block nb hnbs HNB.out
      exact ⟨by rw [World.cell?, h6]; exact (HK.out i y hy).1, by rw [World.cell?, h6]; exact (HK.out i y hy).2⟩
    clear hy0
    refine wpList_copy_kk rfl (.tmp 131) (.tmp 135) 181 181 rfl 180 2 Try.underlying181 size180 (some ⟨g, 0, none⟩) (some ⟨nb, 0, none⟩) N N es.length c rfl rfl g 0 Z 180 HR5.out (ecells es) es.length (by have := HNN.out; show _ = min _ _; omega) (ecells_len es) (fun _ => ⟨rfl, _, rfl, HSRC.out⟩) (by rw [ecells_len]; have := HZL.out; have := HNN.out; omega) ecells_one ?_
    intro W4 hg4 hb4
    have HB6 : Hid (But (· = rb) w W4) := But.more HB5.out.drew (by have := HBG.out; have := HGE.out; omega) hb4.out
    have HF6 : Hid (Flag W4 rb true) := (hb4.out.block rb (lt_of_block HF5.out) (by have := lt_of_block HF.out; have := HBG.out; have := HGE.out; omega)).trans HF5.out
    have HZ6 : Hid (W4.heap[b']? = some (.cells #[.slice (some ⟨g, 0, none⟩) N N] 183 (0, 0))) := (hb4.out.block b' (lt_of_block HZ5.out) (by have := HBG.out; omega)).trans HZ5.out
    have hrow := hg4.out
    rw [splice_all (by rw [ecells_len]; have := HZL.out; have := HNN.out; omega)] at hrow
    obtain ⟨z0, z1, hz⟩ := two_of (l := Z.drop (ecells es).length) (by rw [List.length_drop, ecells_len]; have := HZL.out; have := HNN.out; omega)
    rw [hz] at hrow
    have HROW := Lib.hid hrow
    clear hrow hz hg4 hb4 HB5 HF5 HZ5 HR5 hc0 h41 HSRC hnbs
    clear W3
    have h51 := cell_at (j := 0) HZ6.out rfl
    have hg0 : W4.cell? ⟨g, es.length * 2, none⟩ = some z0 := cell_at HROW.out (by simp [ecells_len])
    have hg1 : W4.cell? ⟨g, es.length * 2 + 1, none⟩ = some z1 := cell_at HROW.out (by simp [ecells_len])
    have hf0 : W4.frozen? ⟨g, es.length * 2, none⟩ = false := frozen_of_row _ _ _ _ _ HROW.out
    have hf1 : W4.frozen? ⟨g, es.length * 2 + 1, none⟩ = false := frozen_of_row _ _ _ _ _ HROW.out
    have hw2 : (N : Int) - 1 = (es.length : Int) := by have := HNN.out; omega
    have hw3 : IntKind.i64.wrap (es.length : Int) = (es.length : Int) := by rw [IntKind.wrap_i64]; omega
    have hlN : es.length < N := by have := HNN.out; omega
    go_wp2
    go_ret
    have hge := HGE.out
    have hbg := HBG.out
    have hrl := lt_of_block HF.out
    exact arr_end HB6.out HF6.out HZ6.out HROW.out (by omega) (by omega) hge (by omega) (by have := HNN.out; simp; omega) (by rw [row_two (ecells_len es), ecells_append]; rfl)
  · exact absurd hyk (HN.out y (List.mem_of_getElem? hy))
end Go.Proofs.Ytpkndcmgialgcaa

namespace Go.Proofs.Ytpkndcmgialgcaa
open Go.RowKit

/-- the hasher's contract -/
def HashIs (mo mu sh : Int) (h : Int → Nat) : Prop := (∀ k, h k < 4294967296) ∧ ∀ (a : Int) (w : World), Calls Try.prog 167 #[av mo mu sh, .int .i64 a] w fun e w' => e = .returned (.int .u32 (h a : Nat)) ∧ Below w.heap.size w w'

/-- the root behind i pairs -/
def GrowAt (h : Int → Nat) (S : Nat → Prop) (w : World) (rb : Nat) (es : List (Int × Int)) (v : Value) (wr : World) : Prop :=
  Node h (New S w) wr 7 0 v es ∧ Once es ∧ But (· = rb) w wr ∧ Flag wr rb true

theorem grow_step {h : Int → Nat} (hlt : ∀ k, h k < 4294967296) (mo mu sh : Int) {S : Nat → Prop} {w wr X : World} {rb : Nat} {es : List (Int × Int)} {v : Value} (k x : Int) (hl : es.length < 100000000) (hg : GrowAt h S w rb es v wr) (hb : But (· = rb) wr X) (hf : Flag X rb true) :
    ∃ (ty p fid : Nat), v = .iface ty (.pointer (some ⟨p, 0, none⟩)) ∧ Disp ty (.pointer (some ⟨p, 0, none⟩)) fid "pub-frond/pub/immutable.set" ∧
      ∀ W, Below X.heap.size X W → Calls Try.prog fid #[.pointer (some ⟨p, 0, none⟩), .int .i64 k, .int .i64 x, .int .u64 0, .int .u32 (h k : Nat), .iface 175 (av mo mu sh), .bool false, .pointer (some ⟨rb, 0, none⟩)] W
        fun e w2 => ∃ ty q, e = .returned (.iface ty (.pointer (some ⟨q, 0, none⟩))) ∧ GrowAt h S w rb (setR h 7 0 es k x) (.iface ty (.pointer (some ⟨q, 0, none⟩))) w2 ∧ But (· = rb) X w2 := by
  obtain ⟨n, ho, hbw, hfw⟩ := hg
  have hst : Stay wr X := hb.stay hfw
  have key : ∀ W, Below X.heap.size X W → ∃ (ty p fid : Nat), v = .iface ty (.pointer (some ⟨p, 0, none⟩)) ∧ Disp ty (.pointer (some ⟨p, 0, none⟩)) fid "pub-frond/pub/immutable.set" ∧
      Calls Try.prog fid #[.pointer (some ⟨p, 0, none⟩), .int .i64 k, .int .i64 x, .int .u64 0, .int .u32 (h k : Nat), .iface 175 (av mo mu sh), .bool false, .pointer (some ⟨rb, 0, none⟩)] W
        fun e w2 => ∃ ty q, e = .returned (.iface ty (.pointer (some ⟨q, 0, none⟩))) ∧ GrowAt h S w rb (setR h 7 0 es k x) (.iface ty (.pointer (some ⟨q, 0, none⟩))) w2 ∧ But (· = rb) X w2 := fun W hW => by
    obtain ⟨ty, p, fid, hv, hd, hc⟩ := set_any hlt mo mu sh k x 7 0 (by omega) hl ho (n.stay (hst.trans (Stay.of_below hW))) (hf.below hW) (fun e _ => by simp [Nat.mod_one])
    refine ⟨ty, p, fid, hv, hd, hc.mono ?_⟩
    rintro e w2 ⟨v2, rfl, n2, hb2, hf2⟩
    obtain ⟨ty3, q, rfl⟩ := n2.ptr
    have hbx : But (· = rb) X w2 := (But.of_below hW).trans hb2
    refine ⟨ty3, q, rfl, ⟨n2.inS fun b _ hb' => ?_, (setR_is h 7 0 es k x).once ho, hbw.trans (hb.trans hbx), ?_⟩, hbx⟩
    · rcases hb' with hb' | hb'
      · exact hb'
      · exact .inr (Nat.le_trans hbw.size (Nat.le_trans hb.size (Nat.le_trans hW.size hb')))
    · rw [Bool.true_or] at hf2; exact hf2
  obtain ⟨ty, p, fid, hv, hd, _⟩ := key X (Below.refl _ X)
  refine ⟨ty, p, fid, hv, hd, fun W hW => ?_⟩
  obtain ⟨ty2, p2, fid2, hv2, hd2, hc2⟩ := key W hW
  obtain ⟨rfl, rfl, rfl⟩ := disp_one hd hd2 (hv.symm.trans hv2)
  exact hc2
/-- pairs, one set behind the other -/
def growL (h : Int → Nat) (key val : Int) (es : List (Int × Int)) : List (Int × Int) := es.foldl (fun a e => setR h 7 0 a e.1 e.2) [(key, val)]
theorem growL_snoc (h : Int → Nat) (key val : Int) (es : List (Int × Int)) (e : Int × Int) : growL h key val (es ++ [e]) = setR h 7 0 (growL h key val es) e.1 e.2 := by unfold growL; rw [List.foldl_append]; rfl
theorem setR_len_le (h : Int → Nat) (r t : Nat) (es : List (Int × Int)) (k v : Int) : (setR h r t es k v).length ≤ es.length + 1 := by
  rw [(setR_is h r t es k v).length]
  split <;> omega
theorem growL_len (h : Int → Nat) (key val : Int) : ∀ es : List (Int × Int), (growL h key val es).length ≤ es.length + 1 := by
  have gen : ∀ (es acc : List (Int × Int)), (es.foldl (fun a e => setR h 7 0 a e.1 e.2) acc).length ≤ es.length + acc.length := by
    intro es
    induction es with
    | nil => intro acc; simp
    | cons e es ih =>
      intro acc
      rw [List.foldl_cons]
      have h1 := ih (setR h 7 0 acc e.1 e.2)
      have h2 := setR_len_le h 7 0 acc e.1 e.2
      simp only [List.length_cons]
      omega
  intro es
  exact gen es [(key, val)]

set_option maxRecDepth 100000 in
set_option maxHeartbeats 1600000 in
theorem arr_set_g (h : Int → Nat) (S : Nat → Prop) (mo mu sh : Int) (hH : HashIs mo mu sh h) (b rb : Nat) (nb c : Nat) (es : List (Int × Int)) (key val : Int) (sf hh : Int) (r : Bool) (hl8 : 8 ≤ es.length) (hl : es.length < 100000) (w : World)
    (hblk : w.heap[b]? = some (.cells #[.slice (some ⟨nb, 0, none⟩) es.length c] 183 (0, 0)))
    (hk : ∀ (i : Nat) (x : Int × Int), es[i]? = some x → w.cell? ⟨nb, i * 2, none⟩ = some (.int .i64 x.1) ∧ w.cell? ⟨nb, i * 2 + 1, none⟩ = some (.int .i64 x.2)) (hnb : nb ≠ rb)
    (hf : Flag w rb r) (hno : ∀ y ∈ es, y.1 ≠ key) :
    Calls Try.prog 171 #[.pointer (some ⟨b, 0, none⟩), .int .i64 key, .int .i64 val, .int .u64 sf, .int .u32 hh, .iface 175 (av mo mu sh), .bool false, .pointer (some ⟨rb, 0, none⟩)] w
      fun e w' => ∃ v', e = .returned v' ∧ GrowAt h S w rb (growL h key val es) v' w' := by
  have HI := Lib.hid (idx_a mo mu sh b nb c es key w (by omega) (cell_at (j := 0) hblk rfl) (fun i y hy => (hk i y hy).1))
  have HF := Lib.hid hf
  have HBLK := Lib.hid hblk
  have hbr := Lib.hid (hf.other hblk (by decide))
  have HK := Lib.hid hk
  have HN := Lib.hid hno
  have HNB := Lib.hid hnb
  have HLT := Lib.hid hH.1
  have HH := Lib.hid hH.2
  obtain ⟨h1, h2, h3⟩ := disp_hash mo mu sh
  clear hblk hk hf hno hnb hH
  go_enter Try.func171, Try.ntmps171
  go_wp2_with fail
  refine HI.out.mono ?_
  rintro e w1 ⟨hb, ⟨rfl, -⟩ | ⟨i, y, hy, hyk, -, -⟩⟩
  · have HB := Lib.hid hb
    have HF1 := Lib.hid (HF.out.below HB.out)
    have hr' := cell_at (j := 0) HF1.out rfl
    have hz' : w1.frozen? ⟨rb, 0, none⟩ = false := frozen_of_row _ _ _ _ _ HF1.out
    clear hb
    go_upto_region 4 with (fail)
    have HB2 : Hid (But (· = rb) w (w1.setCell ⟨rb, 0, none⟩ (.bool true))) := (But.of_below HB.out).set _
    have HF2 : Hid (Flag (w1.setCell ⟨rb, 0, none⟩ (.bool true)) rb true) := HF1.out.set true
    clear hr' hz' HF1 HB
    generalize w1.setCell ⟨rb, 0, none⟩ (.bool true) = w2 at HB2 HF2 ⊢
    clear w1
    have hc0 := cell_at (j := 0) (HB2.out.at HBLK.out hbr.out) rfl
    have h8 : decide ((8 : Int) ≤ (es.length : Int)) = true := by simp; omega
    have h8' : 8 ≤ es.length := by omega
    go_wp2_with fail
    refine (HH.out _ _).mono ?_
    rintro e w3 ⟨rfl, hb3⟩
    have HB3 := Lib.hid (HB2.out.trans (But.of_below hb3))
    have HF3 := Lib.hid (HF2.out.below hb3)
    clear hb3 hc0 h8 h8' HB2 HF2
    clear w2
    go_wp2_with fail
    refine (newval_w _ _ _ _).mono ?_
    rintro e w4 ⟨rfl, rfl⟩
    have HB4 : Hid (But (· = rb) w (w3.alloc (Obj.cells #[.int .u32 (h key : Nat), .int .i64 key, .int .i64 val] 186))) := HB3.out.alloc _
    have HG4 : Hid (GrowAt h S w rb (growL h key val []) (.iface 184 (.pointer (some ⟨w3.heap.size, 0, none⟩))) (w3.alloc (Obj.cells #[.int .u32 (h key : Nat), .int .i64 key, .int .i64 val] 186))) :=
      ⟨Leaf.node (.inl ⟨w3.heap.size, key, val, rfl, heap_alloc_last w3 _, rfl, .inr HB3.out.size⟩), by simp [Once, growL], HB4.out, at_alloc HF3.out⟩
    clear HB3 HF3
    generalize w3.alloc (Obj.cells #[.int .u32 (h key : Nat), .int .i64 key, .int .i64 val] 186) = W at HB4 HG4 ⊢
    generalize w3.heap.size = q0 at HG4 ⊢
    clear w3
    have hc0 := cell_at (j := 0) (HB4.out.at HBLK.out hbr.out) rfl
    go_wp2_with fail
    go_loopg [18, 52] es.length (fun k v i wr => ∃ j : Nat, j + k = es.length ∧ i = .int .i64 (j : Int) ∧ GrowAt h S w rb (growL h key val (es.take j)) v wr)
    case atStart => exact ⟨0, by omega, rfl, HG4.out⟩
    case round =>
      obtain ⟨j, hjk, rfl, hg⟩ := hrel
      have HG := Lib.hid hg
      have hw1 : IntKind.i64.wrap ((j : Int) + 1) = (j : Int) + 1 := by rw [IntKind.wrap_i64]; omega
      clear hc0 HG4 HB4 hg
      by_cases hlt : j < es.length
      · have h1 : decide ((j : Int) < (es.length : Int)) = true := by simp; omega
        obtain ⟨y, hy⟩ : ∃ y, es[j]? = some y := ⟨es[j], List.getElem?_eq_getElem hlt⟩
        have hnbs : nb < w.heap.size := World.block_lt_of_cell? w _ (HK.out j y hy).1
        have h6 := HG.out.2.2.1.block nb hnbs HNB.out
        have hk0 : wr.cell? ⟨nb, j * 2, none⟩ = some (.int .i64 y.1) := by rw [World.cell?, h6]; exact (HK.out j y hy).1
        have hk1 : wr.cell? ⟨nb, j * 2 + 1, none⟩ = some (.int .i64 y.2) := by rw [World.cell?, h6]; exact (HK.out j y hy).2
        have HY := Lib.hid hy
        clear hy h6 hnbs
        have hle : (growL h key val (es.take j)).length < 100000000 := by
          have h7 := growL_len h key val (es.take j)
          have h8 : (es.take j).length ≤ j := List.length_take_le _ _
          omega
        have hfx : Flag (wr.alloc (.cells #[.int .i64 y.1, .int .i64 y.2] 180)) rb true := at_alloc HG.out.2.2.2
        obtain ⟨ty, p, fid, rfl, hd, hcall⟩ := grow_step HLT.out mo mu sh y.1 y.2 hle HG.out ((But.refl _ wr).alloc (.cells #[.int .i64 y.1, .int .i64 y.2] 180)) hfx
        obtain ⟨k1, k2, k3⟩ := hd
        have HCALL := Lib.hid hcall
        clear hle hfx hcall
        go_upto_region 9 with (fail)
        have HX : Hid ((wr.alloc (Obj.cells #[Value.int IntKind.i64 y.1, Value.int IntKind.i64 y.2] 180)).heap[wr.heap.size]? = some (.cells #[.int .i64 y.1, .int .i64 y.2] 180 (0, 0))) := heap_alloc_last wr _
        have HNE : Hid (wr.heap.size ≠ rb) := by have := lt_of_block HG.out.2.2.2; show _ ≠ _; omega
        clear hk0 hk1
        generalize wr.alloc (Obj.cells #[Value.int IntKind.i64 y.1, Value.int IntKind.i64 y.2] 180) = X at HX HCALL ⊢
        generalize wr.heap.size = be at HX HNE ⊢
        have HR0 : Hid (But (· = rb) X X.drew) := (But.refl _ X).drew
        refine region_segsR (fun W => But (· = rb) X W) [([0, 1, 2, 3, 4, 5, 6, 7, 9, 10, 11, 12, 13], [8]), ([], [14]), ([], [15])] (by kernel_rfl) (by intro dst v c a w h; cases dst <;> exact h) (by kernel_rfl) HR0.out ?_
        refine r_segs ?_
        simp only [opsOf, List.getElem?_toArray, List.getElem?_cons_succ, List.getElem?_cons_zero]
        repeat (refine r_read ?_ (by kernel_rfl) ?_ (fun K hK => ?_); rotate_left 1; (intro W hR; have hc0 := cell_at (j := 0) (hR.at HX.out HNE.out) rfl; have hc1 := cell_at (j := 1) (hR.at HX.out HNE.out) rfl; clear hR; go_simp; try with_reducible rfl); go_simp; refine hK _ ?_; clear hK K)
        refine r_nil1 ?_
        refine r_op rfl (fun K hK => ?_)
        go_simp
        refine (HH.out _ _).mono ?_
        rintro e w5 ⟨rfl, hb5⟩
        have HB5 : Hid (Below X.heap.size X w5) := Below.undrew hb5
        clear hb5
        refine hK _ _ (But.of_below HB5.out) ?_
        clear hK K
        refine r_segs ?_
        simp only [opsOf]
        refine r_nil1 ?_
        refine r_op rfl (fun K hK => ?_)
        go_simp
        refine (HCALL.out _ HB5.out).mono ?_
        rintro e w6 ⟨ty2, q2, rfl, hg6, hb6⟩
        have HG6 := Lib.hid hg6
        have HB6 := Lib.hid hb6
        clear hg6 hb6
        refine hK _ _ HB6.out ?_
        clear hK K
        refine r_segs ?_
        simp only [opsOf]
        refine r_nil1 ?_
        refine r_op rfl (fun K hK => ?_)
        go_simp
        refine hK _ _ HB6.out ?_
        clear hK K
        refine r_end ?_
        go_wp2_with fail
        go_roundg (gk - 1)
        case measure => omega
        case rel =>
          refine ⟨j + 1, by omega, rfl, ?_⟩
          have e1 : es.take (j + 1) = es.take j ++ [y] := by rw [List.take_add_one, HY.out]; rfl
          rw [e1, growL_snoc]
          exact HG6.out
      · have h1 : decide ((j : Int) < (es.length : Int)) = false := by simp; omega
        obtain ⟨ty, q, rfl⟩ := HG.out.1.ptr
        go_wp2_with fail
        go_ret
        refine ⟨_, rfl, ?_⟩
        have := HG.out
        rw [List.take_of_length_le (by omega)] at this
        exact this
  · exact absurd hyk (HN.out y (List.mem_of_getElem? hy))
end Go.Proofs.Ytpkndcmgialgcaa
