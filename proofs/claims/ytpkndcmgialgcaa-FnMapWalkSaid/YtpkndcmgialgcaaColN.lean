/- The walks over a map's leaf of several pairs: set (as a copy).

set at a leaf of whatever kind (as a copy). -/
import Derived.Test.YtpkndcmgialgcaaEnt
namespace Go.Proofs.Ytpkndcmgialgcaa
open Go.RowKit

theorem addr_add (g o j : Nat) : (⟨g, o, none⟩ : Addr).add j = ⟨g, o + j, none⟩ := by unfold Addr.add; split <;> simp_all
/-- a row's cells as the source of a copy -/
theorem src_cells {w : World} {nb : Nat} {es : List (Int × Int)} (hk : ∀ (i : Nat) (x : Int × Int), es[i]? = some x → w.cell? ⟨nb, i * 2, none⟩ = some (.int .i64 x.1) ∧ w.cell? ⟨nb, i * 2 + 1, none⟩ = some (.int .i64 x.2)) :
    ∀ j v, (ecells es)[j]? = some v → w.cell? ((⟨nb, 0, none⟩ : Addr).add j) = some v := fun j v hv => by
  rw [addr_add, Nat.zero_add]
  obtain ⟨i, e, he, ⟨rfl, rfl⟩ | ⟨rfl, rfl⟩⟩ := ecells_get hv
  · exact (hk i e he).1
  · exact (hk i e he).2

/-- a new leaf of several pairs -/
def ColPost (w : World) (rb : Nat) (fl : Bool) (x : Int) (es' : List (Int × Int)) (e : Ending) (w' : World) : Prop :=
  ∃ b' g : Nat, e = .returned (.iface 187 (.pointer (some ⟨b', 0, none⟩))) ∧ w.heap.size ≤ b' ∧ w.heap.size ≤ g ∧ w'.heap[b']? = some (.cells #[.int .u32 x, .slice (some ⟨g, 0, none⟩) es'.length es'.length] 189 (0, 0)) ∧
    w'.heap[g]? = some (.cells (ecells es').toArray 180 (0, 0)) ∧ But (· = rb) w w' ∧ Flag w' rb fl
theorem splice_all {Z cs : List Value} (_h : cs.length ≤ Z.length) : splice Z 0 cs = cs ++ Z.drop cs.length := by unfold splice; simp
theorem two_of {l : List Value} (h : l.length = 2) : ∃ a b, l = [a, b] := by
  match l, h with
  | [a, b], _ => exact ⟨a, b, rfl⟩
theorem row_two {L : List Value} {a b u v : Value} {i : Nat} (hi : L.length = i) : ((L ++ [a, b]).toArray.setIfInBounds i u).setIfInBounds (i + 1) v = (L ++ [u, v]).toArray := by
  subst hi
  apply Array.ext'
  simp

theorem col_end {w W : World} {rb b' g N i : Nat} {fl : Bool} {x : Int} {arr : Array Value} {u v : Value} {es' : List (Int × Int)} (hb : But (· = rb) w W) (hf : Flag W rb fl)
    (hz : W.heap[b']? = some (.cells #[.int .u32 x, .slice (some ⟨g, 0, none⟩) N N] 189 (0, 0))) (hr : W.heap[g]? = some (.cells arr 180 (0, 0))) (hne : b' ≠ g) (hrg : rb ≠ g) (h1 : w.heap.size ≤ b') (h2 : w.heap.size ≤ g) (hN : es'.length = N)
    (ha : (arr.setIfInBounds i u).setIfInBounds (i + 1) v = (ecells es').toArray) :
    ColPost w rb fl x es' (.returned (.iface 187 (.pointer (some ⟨b', 0, none⟩)))) ((W.setCell ⟨g, i, none⟩ u).setCell ⟨g, i + 1, none⟩ v).drew := by
  refine ⟨b', g, rfl, h1, h2, ?_, ?_, ((hb.setCell (.inr h2) _).setCell (.inr h2) _).drew, ?_⟩
  · rw [heap_drew, heap_setCell_other _ _ _ _ hne, heap_setCell_other _ _ _ _ hne, hN]
    exact hz
  · rw [heap_drew, ← ha]
    exact heap_setCell_same _ _ _ _ _ _ (heap_setCell_same _ _ _ _ _ _ hr)
  · show ((W.setCell ⟨g, i, none⟩ u).setCell ⟨g, i + 1, none⟩ v).heap[rb]? = _
    rw [heap_setCell_other _ _ _ _ hrg, heap_setCell_other _ _ _ _ hrg]
    exact hf

theorem col_end0 {w W : World} {rb b' g N i : Nat} {fl : Bool} {x : Int} {arr : Array Value} {u v : Value} {es' : List (Int × Int)} (hb : But (· = rb) w W) (hf : Flag W rb fl)
    (hz : W.heap[b']? = some (.cells #[.int .u32 x, .slice (some ⟨g, 0, none⟩) N N] 189 (0, 0))) (hr : W.heap[g]? = some (.cells arr 180 (0, 0))) (hne : b' ≠ g) (hrg : rb ≠ g) (h1 : w.heap.size ≤ b') (h2 : w.heap.size ≤ g) (hN : es'.length = N)
    (ha : (arr.setIfInBounds i u).setIfInBounds (i + 1) v = (ecells es').toArray) :
    ColPost w rb fl x es' (.returned (.iface 187 (.pointer (some ⟨b', 0, none⟩)))) ((W.setCell ⟨g, i, none⟩ u).setCell ⟨g, i + 1, none⟩ v) := by
  refine ⟨b', g, rfl, h1, h2, ?_, ?_, ((hb.setCell (.inr h2) _).setCell (.inr h2) _), ?_⟩
  · rw [heap_setCell_other _ _ _ _ hne, heap_setCell_other _ _ _ _ hne, hN]
    exact hz
  · rw [← ha]
    exact heap_setCell_same _ _ _ _ _ _ (heap_setCell_same _ _ _ _ _ _ hr)
  · show ((W.setCell ⟨g, i, none⟩ u).setCell ⟨g, i + 1, none⟩ v).heap[rb]? = _
    rw [heap_setCell_other _ _ _ _ hrg, heap_setCell_other _ _ _ _ hrg]
    exact hf

set_option maxRecDepth 100000 in
set_option maxHeartbeats 1600000 in
theorem col_set_n (mo mu sh : Int) (b rb : Nat) (x : Int) (nb c : Nat) (es : List (Int × Int)) (key val : Int) (sf hh : Int) (r : Bool) (hl : es.length < 100000000) (w : World)
    (hblk : w.heap[b]? = some (.cells #[.int .u32 x, .slice (some ⟨nb, 0, none⟩) es.length c] 189 (0, 0)))
    (hk : ∀ (i : Nat) (x : Int × Int), es[i]? = some x → w.cell? ⟨nb, i * 2, none⟩ = some (.int .i64 x.1) ∧ w.cell? ⟨nb, i * 2 + 1, none⟩ = some (.int .i64 x.2)) (hnb : nb ≠ rb)
    (hf : Flag w rb r) (hx : (x != hh) = false) (hn : ∀ y ∈ es, y.1 ≠ key) :
    Calls Try.prog 181 #[.pointer (some ⟨b, 0, none⟩), .int .i64 key, .int .i64 val, .int .u64 sf, .int .u32 hh, .iface 175 (av mo mu sh), .bool false, .pointer (some ⟨rb, 0, none⟩)] w
      (ColPost w rb true x (es ++ [(key, val)])) := by
  have hc0 := cell_at (j := 0) hblk rfl
  have hc1 := cell_at (j := 1) hblk rfl
  have hlt := Lib.hid (lt_of_block hblk)
  have hbr := Lib.hid (hf.other hblk (by decide))
  have HBLK := Lib.hid hblk
  have HK := Lib.hid hk
  have HN := Lib.hid hn
  have HF := Lib.hid hf
  have HNB := Lib.hid hnb
  clear hblk hf hk hn hnb
  go_enter Try.func181, Try.ntmps181
  go_wp2_with fail
  have HB : Hid (Below w.heap.size w (w.alloc (Obj.cells #[Value.int IntKind.u32 x, Value.slice none 0 0] 189))) := (Below.refl _ _).alloc (Nat.le_refl _) _
  have HZ : Hid ((w.alloc (Obj.cells #[Value.int IntKind.u32 x, Value.slice none 0 0] 189)).heap[w.heap.size]? = some (.cells #[Value.int IntKind.u32 x, Value.slice none 0 0] 189 (0, 0))) := heap_alloc_last w _
  generalize w.alloc (Obj.cells #[Value.int IntKind.u32 x, Value.slice none 0 0] 189) = W at HB HZ ⊢
  refine (idx_c mo mu sh b nb c es key W (by omega) ((HB.out.cell hlt.out).trans hc1) (fun i y hy => (HB.out.cell (World.block_lt_of_cell? w _ (HK.out i y hy).1)).trans (HK.out i y hy).1)).mono ?_
  rintro e w1 ⟨hb1, ⟨rfl, -⟩ | ⟨i, y, hy, hyk, -, -⟩⟩
  · have HB1 : Hid (Below w.heap.size w w1) := HB.out.trans (hb1.mono HB.out.size)
    have HZ1 : Hid (w1.heap[w.heap.size]? = some (.cells #[Value.int IntKind.u32 x, Value.slice none 0 0] 189 (0, 0))) := (hb1.block _ (lt_of_block HZ.out)).trans HZ.out
    have HF1 : Hid (Flag w1 rb r) := HF.out.below HB1.out
    clear hb1 HZ HB
    clear W
    have hr' := cell_at (j := 0) HF1.out rfl
    have hz' : w1.frozen? ⟨rb, 0, none⟩ = false := frozen_of_row _ _ _ _ _ HF1.out
    go_upto_region 15 with (fail)
    have HB2 : Hid (But (· = rb) w (w1.setCell ⟨rb, 0, none⟩ (.bool true))) := (But.of_below HB1.out).set _
    have HF2 : Hid (Flag (w1.setCell ⟨rb, 0, none⟩ (.bool true)) rb true) := HF1.out.set true
    have hne : w.heap.size ≠ rb := by have := lt_of_block HF.out; omega
    have HZ2 : Hid ((w1.setCell ⟨rb, 0, none⟩ (.bool true)).heap[w.heap.size]? = some (.cells #[Value.int IntKind.u32 x, Value.slice none 0 0] 189 (0, 0))) := by
      show (w1.setCell ⟨rb, 0, none⟩ (.bool true)).heap[w.heap.size]? = _
      rw [heap_setCell_other _ _ _ _ hne]
      exact HZ1.out
    clear hr' hz' HF1 HB1 HZ1 hne hc0 hc1
    generalize w1.setCell ⟨rb, 0, none⟩ (.bool true) = w2 at HB2 HF2 HZ2 ⊢
    have hc1 := cell_at (j := 1) (HB2.out.at HBLK.out hbr.out) rfl
    obtain ⟨N, hN⟩ : ∃ N, N = es.length + 1 := ⟨_, rfl⟩
    have hw : (es.length : Int) + 1 = (N : Int) := by omega
    have hw1 : IntKind.i64.wrap ((es.length : Int) + 1) = (N : Int) := by rw [IntKind.wrap_i64]; omega
    obtain ⟨Z, hZl, hmk⟩ := make181 w2 N (by omega)
    have HZ3 : Hid ((w2.alloc (Obj.cells Z.toArray 180)).heap[w.heap.size]? = some (.cells #[Value.int IntKind.u32 x, Value.slice none 0 0] 189 (0, 0))) := at_alloc HZ2.out
    have h31 := cell_at (j := 1) HZ3.out rfl
    have h32 : (w2.alloc (Obj.cells Z.toArray 180)).frozen? ⟨w.heap.size, 1, none⟩ = false := frozen_of_row _ _ _ _ _ HZ3.out
    have HNN := Lib.hid hN
    have HZL := Lib.hid hZl
    clear hZl hN
    go_upto_region 16 with (fail)
    have hge : w.heap.size < w2.heap.size := lt_of_block HZ2.out
    have hrl : rb < w.heap.size := lt_of_block HF.out
    have HB3 : Hid (But (· = rb) w ((w2.alloc (Obj.cells Z.toArray 180)).setCell ⟨w.heap.size, 1, none⟩ (.slice (some ⟨w2.heap.size, 0, none⟩) N N))) := (HB2.out.alloc _).setCell (.inr (Nat.le_refl _)) _
    have HF3 : Hid (Flag ((w2.alloc (Obj.cells Z.toArray 180)).setCell ⟨w.heap.size, 1, none⟩ (.slice (some ⟨w2.heap.size, 0, none⟩) N N)) rb true) := by
      show ((w2.alloc (Obj.cells Z.toArray 180)).setCell ⟨w.heap.size, 1, none⟩ (.slice (some ⟨w2.heap.size, 0, none⟩) N N)).heap[rb]? = _
      rw [heap_setCell_other _ _ _ _ (by show rb ≠ w.heap.size; omega)]
      exact at_alloc HF2.out
    have HZ4 : Hid (((w2.alloc (Obj.cells Z.toArray 180)).setCell ⟨w.heap.size, 1, none⟩ (.slice (some ⟨w2.heap.size, 0, none⟩) N N)).heap[w.heap.size]? = some (.cells #[.int .u32 x, .slice (some ⟨w2.heap.size, 0, none⟩) N N] 189 (0, 0))) := heap_setCell_same _ _ _ _ _ _ HZ3.out
    have HR4 : Hid (((w2.alloc (Obj.cells Z.toArray 180)).setCell ⟨w.heap.size, 1, none⟩ (.slice (some ⟨w2.heap.size, 0, none⟩) N N)).heap[w2.heap.size]? = some (.cells Z.toArray 180 (0, 0))) := by
      show ((w2.alloc (Obj.cells Z.toArray 180)).setCell ⟨w.heap.size, 1, none⟩ (.slice (some ⟨w2.heap.size, 0, none⟩) N N)).heap[w2.heap.size]? = _
      rw [heap_setCell_other _ _ _ _ (by show w2.heap.size ≠ w.heap.size; omega)]
      exact heap_alloc_last w2 _
    have HGE := Lib.hid hge
    clear hge hrl hc1 h31 h32 hmk hw hw1 HB2 HF2 HZ2 HZ3
    generalize (w2.alloc (Obj.cells Z.toArray 180)).setCell ⟨w.heap.size, 1, none⟩ (.slice (some ⟨w2.heap.size, 0, none⟩) N N) = W3 at HB3 HF3 HZ4 HR4 ⊢
    generalize w2.heap.size = g at HZ4 HR4 HGE ⊢
    clear w2
    have hc1 := cell_at (j := 1) (HB3.out.at HBLK.out hbr.out) rfl
    have h41 := cell_at (j := 1) HZ4.out rfl
    refine region_tail 8 (by kernel_rfl) (by kernel_rfl) ?_
    simp only [List.take_succ_cons, List.take_zero, List.drop_succ_cons, List.drop_zero]
    repeat still_step
    refine wpStill_nil ?_
    have hsrc := src_cells (w := W3.drew) (nb := nb) (es := es) fun i y hy => by
      have h5 : nb < w.heap.size := World.block_lt_of_cell? w _ (HK.out i y hy).1
      have h6 := HB3.out.block nb h5 HNB.out
      constructor
      · show W3.cell? _ = _
        rw [World.cell?, h6]; exact (HK.out i y hy).1
      · show W3.cell? _ = _
        rw [World.cell?, h6]; exact (HK.out i y hy).2
    have HSRC := Lib.hid hsrc
    clear hsrc
    refine wpList_copy_k rfl (.tmp 94) (.tmp 98) 181 181 rfl 180 2 Try.underlying181 size180 g 0 N N ⟨nb, 0, none⟩ es.length c rfl rfl Z 180 HR4.out (ecells es) es.length (by have := HNN.out; show _ = min _ _; omega) (ecells_len es) HSRC.out (by rw [ecells_len]; have := HZL.out; have := HNN.out; omega) ecells_one g W3.drew (Below.refl _ _ |>.mono (Nat.le_of_lt (by show g < W3.heap.size; exact lt_of_block HR4.out))) (Nat.le_refl _) ?_
    intro W4 hg4 hb4 heq
    have hlg : g < W3.heap.size := lt_of_block HR4.out
    have hoth : ∀ k, k ≠ g → W4.heap[k]? = W3.heap[k]? := fun k hk => by rw [heq]; exact setRow_other _ _ _ _ hk
    have hbut : But (· = g) W3 W4 := ⟨hb4.os, hb4.tape, hb4.output, hb4.size, fun k _ hs => hoth k hs⟩
    have HB4 : Hid (But (· = rb) w W4) := by
      refine ⟨hbut.os.trans HB3.out.os, hbut.tape.trans HB3.out.tape, hbut.output.trans HB3.out.output, Nat.le_trans HB3.out.size hbut.size, fun k hk hs => ?_⟩
      rw [hoth k (by have := HGE.out; omega)]
      exact HB3.out.block k hk hs
    have HF4 : Hid (Flag W4 rb true) := by
      show W4.heap[rb]? = _
      rw [hoth rb (by have := lt_of_block HF.out; have := HGE.out; omega)]
      exact HF3.out
    have HZ5 : Hid (W4.heap[w.heap.size]? = some (.cells #[.int .u32 x, .slice (some ⟨g, 0, none⟩) N N] 189 (0, 0))) := by
      show W4.heap[w.heap.size]? = _
      rw [hoth _ (by have := HGE.out; omega)]
      exact HZ4.out
    have hrow := hg4.out
    rw [splice_all (by rw [ecells_len]; have := HZL.out; have := HNN.out; omega)] at hrow
    obtain ⟨z0, z1, hz⟩ := two_of (l := Z.drop (ecells es).length) (by rw [List.length_drop, ecells_len]; have := HZL.out; have := HNN.out; omega)
    rw [hz] at hrow
    have HROW := Lib.hid hrow
    clear hrow hz hg4 hb4 heq hbut hoth hlg HB3 HF3 HZ4 HR4 hc1 h41 HSRC
    clear W3
    have h51 := cell_at (j := 1) HZ5.out rfl
    obtain ⟨i0, hi0⟩ : ∃ i0, i0 = es.length * 2 := ⟨_, rfl⟩
    have hg0 : W4.cell? ⟨g, es.length * 2, none⟩ = some z0 := cell_at HROW.out (by simp [ecells_len])
    have hg1 : W4.cell? ⟨g, es.length * 2 + 1, none⟩ = some z1 := cell_at HROW.out (by simp [ecells_len])
    have hf0 : W4.frozen? ⟨g, es.length * 2, none⟩ = false := frozen_of_row _ _ _ _ _ HROW.out
    have hf1 : W4.frozen? ⟨g, es.length * 2 + 1, none⟩ = false := frozen_of_row _ _ _ _ _ HROW.out
    have hw2 : (N : Int) - 1 = (es.length : Int) := by have := HNN.out; omega
    have hw3 : IntKind.i64.wrap (es.length : Int) = (es.length : Int) := by rw [IntKind.wrap_i64]; omega
    have hlN : es.length < N := by have := HNN.out; omega
    go_upto_region 17 with (fail)
    refine region_tail 14 (by kernel_rfl) (by kernel_rfl) ?_
    simp only [List.take_succ_cons, List.take_zero, List.drop_succ_cons, List.drop_zero]
    repeat still_step
    refine wpStill_nil ?_
    go_wp2
    go_ret
    have hge := HGE.out
    have hrl := lt_of_block HF.out
    exact col_end HB4.out HF4.out HZ5.out HROW.out (by omega) (by omega) (Nat.le_refl _) (by omega) (by have := HNN.out; simp; omega) (by rw [row_two (ecells_len es), ecells_append]; rfl)
  · exact absurd hyk (HN.out y (List.mem_of_getElem? hy))

theorem ecells_set : ∀ (es : List (Int × Int)) (i : Nat) (e : Int × Int), ((ecells es).toArray.setIfInBounds (i * 2) (.int .i64 e.1)).setIfInBounds (i * 2 + 1) (.int .i64 e.2) = (ecells (es.set i e)).toArray := by
  have key : ∀ (es : List (Int × Int)) (i : Nat) (e : Int × Int), ((ecells es).set (i * 2) (.int .i64 e.1)).set (i * 2 + 1) (.int .i64 e.2) = ecells (es.set i e) := by
    intro es
    induction es with
    | nil => intro i e; rfl
    | cons a es ih =>
      intro i e
      cases i with
      | zero => rfl
      | succ i =>
        rw [List.set_cons_succ, ecells_cons, ecells_cons, ← ih i e, show (i + 1) * 2 = i * 2 + 1 + 1 by omega]
        rfl
  intro es i e
  apply Array.ext'
  rw [← key]
  simp

set_option maxRecDepth 100000 in
set_option maxHeartbeats 1600000 in
theorem col_set_u (mo mu sh : Int) (b rb : Nat) (x : Int) (nb c : Nat) (es : List (Int × Int)) (key val : Int) (sf hh : Int) (r : Bool) (hl : es.length < 100000000) (w : World)
    (hblk : w.heap[b]? = some (.cells #[.int .u32 x, .slice (some ⟨nb, 0, none⟩) es.length c] 189 (0, 0)))
    (hk : ∀ (i : Nat) (x : Int × Int), es[i]? = some x → w.cell? ⟨nb, i * 2, none⟩ = some (.int .i64 x.1) ∧ w.cell? ⟨nb, i * 2 + 1, none⟩ = some (.int .i64 x.2)) (hnb : nb ≠ rb)
    (hf : Flag w rb r) (hx : (x != hh) = false) (y0 : Int × Int) (i : Nat) (hy0 : es[i]? = some y0) (hyk : y0.1 = key) (ho : ∀ y j, es[j]? = some y → y.1 = key → j = i) :
    Calls Try.prog 181 #[.pointer (some ⟨b, 0, none⟩), .int .i64 key, .int .i64 val, .int .u64 sf, .int .u32 hh, .iface 175 (av mo mu sh), .bool false, .pointer (some ⟨rb, 0, none⟩)] w
      (ColPost w rb r x (es.set i (key, val))) := by
  have hc0 := cell_at (j := 0) hblk rfl
  have hc1 := cell_at (j := 1) hblk rfl
  have hlt := Lib.hid (lt_of_block hblk)
  have hbr := Lib.hid (hf.other hblk (by decide))
  have HBLK := Lib.hid hblk
  have HK := Lib.hid hk
  have HO := Lib.hid ho
  have HY := Lib.hid (And.intro hy0 hyk)
  have HF := Lib.hid hf
  have HNB := Lib.hid hnb
  clear hblk hf hk ho hy0 hyk hnb
  go_enter Try.func181, Try.ntmps181
  go_wp2_with fail
  have HB : Hid (Below w.heap.size w (w.alloc (Obj.cells #[Value.int IntKind.u32 x, Value.slice none 0 0] 189))) := (Below.refl _ _).alloc (Nat.le_refl _) _
  have HZ : Hid ((w.alloc (Obj.cells #[Value.int IntKind.u32 x, Value.slice none 0 0] 189)).heap[w.heap.size]? = some (.cells #[Value.int IntKind.u32 x, Value.slice none 0 0] 189 (0, 0))) := heap_alloc_last w _
  generalize w.alloc (Obj.cells #[Value.int IntKind.u32 x, Value.slice none 0 0] 189) = W at HB HZ ⊢
  refine (idx_c mo mu sh b nb c es key W (by omega) ((HB.out.cell hlt.out).trans hc1) (fun i y hy => (HB.out.cell (World.block_lt_of_cell? w _ (HK.out i y hy).1)).trans (HK.out i y hy).1)).mono ?_
  rintro e w1 ⟨hb1, ⟨rfl, hno⟩ | ⟨i', y, hy, hyk, -, rfl⟩⟩
  · exact absurd HY.out.2 (hno y0 (List.mem_of_getElem? HY.out.1))
  · obtain rfl : i' = i := HO.out y i' hy hyk
    have hil : i' < es.length := by
      rcases Nat.lt_or_ge i' es.length with h | h
      · exact h
      · rw [List.getElem?_eq_none h] at hy; cases hy
    have HB1 : Hid (Below w.heap.size w w1) := HB.out.trans (hb1.mono HB.out.size)
    have HZ2 : Hid (w1.heap[w.heap.size]? = some (.cells #[Value.int IntKind.u32 x, Value.slice none 0 0] 189 (0, 0))) := (hb1.block _ (lt_of_block HZ.out)).trans HZ.out
    have HF2 : Hid (Flag w1 rb r) := HF.out.below HB1.out
    have HB2 : Hid (But (· = rb) w w1) := But.of_below HB1.out
    have hne : ((i' : Int) == -1) = false := by simp
    clear hb1 HZ HB hy hyk HB1
    clear W
    clear hc0 hc1
    generalize w1 = w2 at HB2 HF2 HZ2 ⊢
    have hc1 := cell_at (j := 1) (HB2.out.at HBLK.out hbr.out) rfl
    obtain ⟨Z, hZl, hmk⟩ := make181 w2 es.length (by omega)
    have HZ3 : Hid ((w2.alloc (Obj.cells Z.toArray 180)).heap[w.heap.size]? = some (.cells #[Value.int IntKind.u32 x, Value.slice none 0 0] 189 (0, 0))) := at_alloc HZ2.out
    have h31 := cell_at (j := 1) HZ3.out rfl
    have h32 : (w2.alloc (Obj.cells Z.toArray 180)).frozen? ⟨w.heap.size, 1, none⟩ = false := frozen_of_row _ _ _ _ _ HZ3.out
    have HZL := Lib.hid hZl
    clear hZl
    go_upto_region 19 with (fail)
    have hge : w.heap.size < w2.heap.size := lt_of_block HZ2.out
    have hrl : rb < w.heap.size := lt_of_block HF.out
    have HB3 : Hid (But (· = rb) w ((w2.alloc (Obj.cells Z.toArray 180)).setCell ⟨w.heap.size, 1, none⟩ (.slice (some ⟨w2.heap.size, 0, none⟩) es.length es.length))) := (HB2.out.alloc _).setCell (.inr (Nat.le_refl _)) _
    have HF3 : Hid (Flag ((w2.alloc (Obj.cells Z.toArray 180)).setCell ⟨w.heap.size, 1, none⟩ (.slice (some ⟨w2.heap.size, 0, none⟩) es.length es.length)) rb r) := by
      show ((w2.alloc (Obj.cells Z.toArray 180)).setCell ⟨w.heap.size, 1, none⟩ (.slice (some ⟨w2.heap.size, 0, none⟩) es.length es.length)).heap[rb]? = _
      rw [heap_setCell_other _ _ _ _ (by show rb ≠ w.heap.size; omega)]
      exact at_alloc HF2.out
    have HZ4 : Hid (((w2.alloc (Obj.cells Z.toArray 180)).setCell ⟨w.heap.size, 1, none⟩ (.slice (some ⟨w2.heap.size, 0, none⟩) es.length es.length)).heap[w.heap.size]? = some (.cells #[.int .u32 x, .slice (some ⟨w2.heap.size, 0, none⟩) es.length es.length] 189 (0, 0))) := heap_setCell_same _ _ _ _ _ _ HZ3.out
    have HR4 : Hid (((w2.alloc (Obj.cells Z.toArray 180)).setCell ⟨w.heap.size, 1, none⟩ (.slice (some ⟨w2.heap.size, 0, none⟩) es.length es.length)).heap[w2.heap.size]? = some (.cells Z.toArray 180 (0, 0))) := by
      show ((w2.alloc (Obj.cells Z.toArray 180)).setCell ⟨w.heap.size, 1, none⟩ (.slice (some ⟨w2.heap.size, 0, none⟩) es.length es.length)).heap[w2.heap.size]? = _
      rw [heap_setCell_other _ _ _ _ (by show w2.heap.size ≠ w.heap.size; omega)]
      exact heap_alloc_last w2 _
    have HGE := Lib.hid hge
    clear hge hrl hc1 h31 h32 hmk hne HB2 HF2 HZ2 HZ3
    generalize (w2.alloc (Obj.cells Z.toArray 180)).setCell ⟨w.heap.size, 1, none⟩ (.slice (some ⟨w2.heap.size, 0, none⟩) es.length es.length) = W3 at HB3 HF3 HZ4 HR4 ⊢
    generalize w2.heap.size = g at HZ4 HR4 HGE ⊢
    clear w2
    have hc1 := cell_at (j := 1) (HB3.out.at HBLK.out hbr.out) rfl
    have h41 := cell_at (j := 1) HZ4.out rfl
    refine region_tail 8 (by kernel_rfl) (by kernel_rfl) ?_
    simp only [List.take_succ_cons, List.take_zero, List.drop_succ_cons, List.drop_zero]
    repeat still_step
    refine wpStill_nil ?_
    have hsrc := src_cells (w := W3.drew) (nb := nb) (es := es) fun i y hy => by
      have h5 : nb < w.heap.size := World.block_lt_of_cell? w _ (HK.out i y hy).1
      have h6 := HB3.out.block nb h5 HNB.out
      constructor
      · show W3.cell? _ = _
        rw [World.cell?, h6]; exact (HK.out i y hy).1
      · show W3.cell? _ = _
        rw [World.cell?, h6]; exact (HK.out i y hy).2
    have HSRC := Lib.hid hsrc
    clear hsrc
    refine wpList_copy_k rfl (.tmp 126) (.tmp 130) 181 181 rfl 180 2 Try.underlying181 size180 g 0 es.length es.length ⟨nb, 0, none⟩ es.length c rfl rfl Z 180 HR4.out (ecells es) es.length (by show _ = min _ _; omega) (ecells_len es) HSRC.out (by rw [ecells_len]; have := HZL.out; omega) ecells_one g W3.drew (Below.refl _ _ |>.mono (Nat.le_of_lt (by show g < W3.heap.size; exact lt_of_block HR4.out))) (Nat.le_refl _) ?_
    intro W4 hg4 hb4 heq
    have hlg : g < W3.heap.size := lt_of_block HR4.out
    have hoth : ∀ k, k ≠ g → W4.heap[k]? = W3.heap[k]? := fun k hk => by rw [heq]; exact setRow_other _ _ _ _ hk
    have hbut : But (· = g) W3 W4 := ⟨hb4.os, hb4.tape, hb4.output, hb4.size, fun k _ hs => hoth k hs⟩
    have HB4 : Hid (But (· = rb) w W4) := by
      refine ⟨hbut.os.trans HB3.out.os, hbut.tape.trans HB3.out.tape, hbut.output.trans HB3.out.output, Nat.le_trans HB3.out.size hbut.size, fun k hk hs => ?_⟩
      rw [hoth k (by have := HGE.out; omega)]
      exact HB3.out.block k hk hs
    have HF4 : Hid (Flag W4 rb r) := by
      show W4.heap[rb]? = _
      rw [hoth rb (by have := lt_of_block HF.out; have := HGE.out; omega)]
      exact HF3.out
    have HZ5 : Hid (W4.heap[w.heap.size]? = some (.cells #[.int .u32 x, .slice (some ⟨g, 0, none⟩) es.length es.length] 189 (0, 0))) := by
      show W4.heap[w.heap.size]? = _
      rw [hoth _ (by have := HGE.out; omega)]
      exact HZ4.out
    have hrow := hg4.out
    rw [splice_all (by rw [ecells_len]; have := HZL.out; omega)] at hrow
    rw [List.drop_of_length_le (by rw [ecells_len]; have := HZL.out; omega), List.append_nil] at hrow
    have HROW := Lib.hid hrow
    clear hrow hg4 hb4 heq hbut hoth hlg HB3 HF3 HZ4 HR4 hc1 h41 HSRC
    clear W3
    have h51 := cell_at (j := 1) HZ5.out rfl
    obtain ⟨hg0', hg1'⟩ := ecells_at HY.out.1
    have hg0 : W4.cell? ⟨g, i' * 2, none⟩ = some (.int .i64 y0.1) := cell_at HROW.out (by rw [List.getElem?_toArray]; exact hg0')
    have hg1 : W4.cell? ⟨g, i' * 2 + 1, none⟩ = some (.int .i64 y0.2) := cell_at HROW.out (by rw [List.getElem?_toArray]; exact hg1')
    have hf0 : W4.frozen? ⟨g, i' * 2, none⟩ = false := frozen_of_row _ _ _ _ _ HROW.out
    have hf1 : W4.frozen? ⟨g, i' * 2 + 1, none⟩ = false := frozen_of_row _ _ _ _ _ HROW.out
    clear hg0' hg1'
    go_wp2
    go_ret
    have hge := HGE.out
    have hrl := lt_of_block HF.out
    exact col_end0 HB4.out HF4.out HZ5.out HROW.out (by omega) (by omega) (Nat.le_refl _) (by omega) (by simp) (ecells_set es i' (key, val))
end Go.Proofs.Ytpkndcmgialgcaa

namespace Go.Proofs.Ytpkndcmgialgcaa
open Go.RowKit

set_option maxRecDepth 100000 in
set_option maxHeartbeats 800000 in
theorem col_set_m (H : Value) (b rb : Nat) (x : Int) (sl : Value) (key val : Int) (sf hh : Int) (r : Bool) (w : World)
    (hblk : w.heap[b]? = some (.cells #[.int .u32 x, sl] 189 (0, 0))) (hf : Flag w rb r) (hx : (x != hh) = true) (Q : World → Ending → World → Prop)
    (hm : ∀ w2, But (· = rb) w w2 → Flag w2 rb true → Calls Try.prog 177 #[.iface 187 (.pointer (some ⟨b, 0, none⟩)), .int .u64 sf, .int .u32 hh, .int .i64 key, .int .i64 val] w2 fun e w3 => ∃ t q, e = .returned (.iface t (.pointer (some ⟨q, 0, none⟩))) ∧ Q w2 e w3) :
    Calls Try.prog 181 #[.pointer (some ⟨b, 0, none⟩), .int .i64 key, .int .i64 val, .int .u64 sf, .int .u32 hh, H, .bool false, .pointer (some ⟨rb, 0, none⟩)] w fun e w' => ∃ w2, But (· = rb) w w2 ∧ Flag w2 rb true ∧ Q w2 e w' := by
  have hc0 := cell_at (j := 0) hblk rfl
  have HM := Lib.hid hm
  have HF := Lib.hid hf
  have hr' := cell_at (j := 0) hf rfl
  have hz' : w.frozen? ⟨rb, 0, none⟩ = false := frozen_of_row _ _ _ _ _ hf
  clear hm hf hblk
  go_enter Try.func181, Try.ntmps181
  go_upto_region 3 with (fail)
  have HB2 : Hid (But (· = rb) w (w.setCell ⟨rb, 0, none⟩ (.bool true))) := (But.refl _ w).set _
  have HF2 : Hid (Flag (w.setCell ⟨rb, 0, none⟩ (.bool true)) rb true) := HF.out.set true
  clear hr' hz' hc0
  generalize w.setCell ⟨rb, 0, none⟩ (.bool true) = w2 at HB2 HF2 ⊢
  go_wp2_with fail
  refine (HM.out w2 HB2.out HF2.out).mono ?_
  rintro e w3 ⟨t, q, rfl, hq⟩
  have HQ := Lib.hid hq
  clear hq
  go_wp2_with fail
  go_ret
  exact ⟨w2, HB2.out, HF2.out, HQ.out⟩

theorem Ents.ne_flag {S : Nat → Prop} {w : World} {b c rb : Nat} {n : Nat} {r : Bool} {es : List (Int × Int)} (he : Ents S w (.slice (some ⟨b, 0, none⟩) n c) es) (hf : Flag w rb r) : b ≠ rb := by
  obtain ⟨b', c', arr, h1, h2, _⟩ := he
  simp only [Value.slice.injEq, Option.some.injEq, Addr.mk.injEq, and_true] at h1
  obtain ⟨rfl, _⟩ := h1
  exact hf.other h2 (by decide)
theorem upd_set {es : List (Int × Int)} {i : Nat} {y : Int × Int} {k v : Int} (hy : es[i]? = some y) (hyk : y.1 = k) (ho : ∀ y j, es[j]? = some y → y.1 = k → j = i) : upd es k v = es.set i (k, v) := by
  unfold upd
  apply List.ext_getElem?
  intro j
  rw [List.getElem?_map, List.getElem?_set]
  by_cases e : i = j
  · subst e
    have hl : i < es.length := by
      rcases Nat.lt_or_ge i es.length with h | h
      · exact h
      · rw [List.getElem?_eq_none h] at hy; cases hy
    rw [hy, if_pos rfl, if_pos hl]
    simp [hyk]
  · rw [if_neg e]
    cases hj : es[j]? with
    | none => rfl
    | some z =>
      have : ¬ z.1 = k := fun h => e (ho z j hj h).symm
      simp [this]
theorem once_at {es : List (Int × Int)} (ho : Once es) {i j : Nat} {y z : Int × Int} (hi : es[i]? = some y) (hj : es[j]? = some z) (e : y.1 = z.1) : i = j := by
  unfold Once at ho
  have h1 : (es.map (·.1))[i]? = some y.1 := by rw [List.getElem?_map, hi]; rfl
  have h2 : (es.map (·.1))[j]? = some y.1 := by rw [List.getElem?_map, hj, e]; rfl
  have hl : i < (es.map (·.1)).length := by
    rcases Nat.lt_or_ge i (es.map (·.1)).length with h | h
    · exact h
    · rw [List.getElem?_eq_none h] at h1; cases h1
  exact (List.getElem?_inj hl ho).1 (h1.trans h2.symm)
theorem Ents.of_cells {S : Nat → Prop} {w : World} {g : Nat} {es : List (Int × Int)} (hr : w.heap[g]? = some (.cells (ecells es).toArray 180 (0, 0))) (hS : S g) : Ents S w (.slice (some ⟨g, 0, none⟩) es.length es.length) es := by
  refine ⟨g, es.length, _, rfl, hr, ?_, Nat.le_refl _, fun i e he => ?_, hS⟩
  · rw [List.size_toArray, ecells_len, Nat.mul_comm]
  · obtain ⟨h1, h2⟩ := ecells_at he
    rw [Nat.mul_comm] at h1 h2
    exact ⟨by rw [List.getElem?_toArray]; exact h1, by rw [List.getElem?_toArray]; exact h2⟩

theorem disp_set184 (p : Nat) : Disp 184 (.pointer (some ⟨p, 0, none⟩)) 176 "pub-frond/pub/immutable.set" := ⟨fun w => by kernel_rfl, fun w => by kernel_rfl, fun a w => by kernel_rfl⟩
theorem disp_set187 (p : Nat) : Disp 187 (.pointer (some ⟨p, 0, none⟩)) 181 "pub-frond/pub/immutable.set" := ⟨fun w => by kernel_rfl, fun w => by kernel_rfl, fun a w => by kernel_rfl⟩
theorem disp_set252 (p : Nat) : Disp 252 (.pointer (some ⟨p, 0, none⟩)) 200 "pub-frond/pub/immutable.set" := ⟨fun w => by kernel_rfl, fun w => by kernel_rfl, fun a w => by kernel_rfl⟩
theorem disp_set256 (p : Nat) : Disp 256 (.pointer (some ⟨p, 0, none⟩)) 205 "pub-frond/pub/immutable.set" := ⟨fun w => by kernel_rfl, fun w => by kernel_rfl, fun a w => by kernel_rfl⟩

theorem col_node {h : Int → Nat} {S : Nat → Prop} {w w' : World} {rb x : Nat} {fl : Bool} {es' : List (Int × Int)} {e : Ending} {r t : Nat} (hp : ColPost w rb fl x es' e w') (h2 : 2 ≤ es'.length) (hx : ∀ y ∈ es', h y.1 = x) :
    ∃ v', e = .returned v' ∧ Node h (New S w) w' r t v' es' ∧ But (· = rb) w w' ∧ Flag w' rb fl := by
  obtain ⟨b', g, rfl, h3, h4, h5, h6, h7, h8⟩ := hp
  exact ⟨_, rfl, Leaf.node (.inr ⟨b', x, _, rfl, h5, Ents.of_cells h6 (.inr h4), h2, hx, .inr h3⟩), h7, h8⟩

/-- set at a leaf -/
theorem leaf_set {h : Int → Nat} (hlt : ∀ k, h k < 4294967296) {S : Nat → Prop} (mo mu sh key val : Int) (r t : Nat) (hrt : r + t = 7) {w : World} {v : Value} {rb : Nat} {es : List (Int × Int)} {old : Bool}
    (hl : es.length < 100000000) (ho : Once es) (n : Leaf h S w v es) (hf : Flag w rb old) (ha : ∀ e ∈ es, h e.1 % 32 ^ t = h key % 32 ^ t) :
    ∃ (ty p fid : Nat), v = .iface ty (.pointer (some ⟨p, 0, none⟩)) ∧ Disp ty (.pointer (some ⟨p, 0, none⟩)) fid "pub-frond/pub/immutable.set" ∧
      Calls Try.prog fid #[.pointer (some ⟨p, 0, none⟩), .int .i64 key, .int .i64 val, .int .u64 (5 * t : Nat), .int .u32 (h key : Nat), .iface 175 (av mo mu sh), .bool false, .pointer (some ⟨rb, 0, none⟩)] w
        (SetPost h S w rb old r t es key val) := by
  rcases n with ⟨b, k, y, rfl, h2, rfl, h4⟩ | ⟨b, x, sl, rfl, h2, h3, h4, h5, h6⟩
  · exact ⟨_, _, _, rfl, disp_set184 b, val_set_any hlt mo mu sh key val r t hrt h2 h4 hf (ha (k, y) (by simp))⟩
  · refine ⟨_, _, _, rfl, disp_set187 b, ?_⟩
    have n : Leaf h S w (.iface 187 (.pointer (some ⟨b, 0, none⟩))) es := .inr ⟨b, x, sl, rfl, h2, h3, h4, h5, h6⟩
    obtain ⟨a, hae⟩ : ∃ a, a ∈ es := by
      cases es with
      | nil => simp at h4
      | cons a es => exact ⟨a, by simp⟩
    have hxa := h5 a hae
    have hxl : x < 4294967296 := by rw [← hxa]; exact hlt _
    by_cases hx : x = h key
    · obtain ⟨nb, c, rfl, hr⟩ := h3.reads
      have hnb := h3.ne_flag hf
      by_cases hh : has es key = true
      · obtain ⟨y, hy, hyk⟩ := has_iff.1 hh
        obtain ⟨i, hi⟩ := List.getElem?_of_mem hy
        have huniq : ∀ z j, es[j]? = some z → z.1 = key → j = i := fun z j hj hz => once_at ho hj hi (hz.trans hyk.symm)
        refine (col_set_u mo mu sh b rb x nb c es key val _ (h key : Nat) old hl w h2 hr hnb hf (by rw [hx]; simp) y i hi hyk huniq).mono fun e w' hp => ?_
        rw [← upd_set hi hyk huniq] at hp
        have hs : SetPost h S w rb old r t es key val e w' := by
          unfold SetPost
          rw [setR_has hh, hh, Bool.not_true, Bool.or_false]
          refine col_node hp ?_ fun z hz => ?_
          · unfold upd; rw [List.length_map]; exact h4
          · unfold upd at hz
            obtain ⟨z', hz', rfl⟩ := List.mem_map.1 hz
            split
            · exact hx.symm
            · exact h5 z' hz'
        exact hs
      · have hh' : has es key = false := by simpa using hh
        have hno : ∀ z ∈ es, z.1 ≠ key := fun z hz e => hh (has_iff.2 ⟨z, hz, e⟩)
        refine (col_set_n mo mu sh b rb x nb c es key val _ (h key : Nat) old hl w h2 hr hnb hf (by rw [hx]; simp) hno).mono fun e w' hp => ?_
        have hs : SetPost h S w rb old r t es key val e w' := by
          unfold SetPost
          rw [setR_new hh' (fun z hz => (h5 z hz).trans hx), hh', Bool.not_false, Bool.or_true]
          refine col_node hp ?_ fun z hz => ?_
          · rw [List.length_append]; omega
          · rcases List.mem_append.1 hz with hz | hz
            · exact h5 z hz
            · simp only [List.mem_singleton] at hz
              subst hz
              exact hx.symm
        exact hs
    · have hh' : has es key = false := by
        rw [Bool.eq_false_iff]
        intro h7
        obtain ⟨y, hy, hyk⟩ := has_iff.1 h7
        exact hx (by rw [← h5 y hy, hyk])
      cases r with
      | zero =>
        exfalso
        have ha' := ha a hae
        rw [hxa, show t = 7 by omega] at ha'
        have h3 := hlt key
        omega
      | succ r =>
        refine (col_set_m _ b rb x sl key val (5 * t : Nat) (h key : Nat) old w h2 hf (by simpa using fun e => hx (by omega))
          (fun w2 e w3 => ∃ v', e = .returned v' ∧ Node h (New S w2) w3 (r + 1) t v' (setR h (r + 1) t es key val) ∧ Below w2.heap.size w2 w3) (fun w2 hb hf2 => ?_)).mono ?_
        · refine (merge_any hlt key val r t hrt (Leaf.keeps (Keeps.of_stay (hb.stay hf)) n) (x := x) h5 hx hxl (by rw [← hxa]; exact ha a hae)).mono ?_
          rintro e w3 ⟨v', rfl, n3, hb3⟩
          obtain ⟨ty, q, rfl⟩ := n3.ptr
          exact ⟨ty, q, rfl, _, rfl, n3, hb3⟩
        · rintro e w' ⟨w2, hb, hf2, v', rfl, n3, hb3⟩
          refine ⟨v', rfl, n3.inS fun b _ hb' => New.of hb.size hb', hb.trans (But.of_below hb3), ?_⟩
          rw [hh', Bool.not_false, Bool.or_true]
          exact hf2.below hb3
end Go.Proofs.Ytpkndcmgialgcaa
