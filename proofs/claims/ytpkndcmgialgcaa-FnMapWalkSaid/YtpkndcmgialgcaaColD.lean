/- copy of parts of rows whose elements take more cells than one, nothing at all let in.

The walks over a leaf of several pairs: delete. -/
import Derived.Test.YtpkndcmgialgcaaValD
namespace Go.Proofs.Ytpkndcmgialgcaa
open Go.RowKit

theorem run_copy_nonek {P : Program} (w : World) (dT sT ty elem : TypeId) (k : Nat) (d a : Option Addr) (dLen dCap sLen sCap : Nat) (hu : P.underlying dT = some (.slice elem)) (hs : (P.info? elem).map (·.size) = some k) (hn : Nat.min sLen dLen = 0) :
    (Builtin.copy_ #[dT, sT] ty #[.slice d dLen dCap, .slice a sLen sCap]).run P w = .ok (goInt 0) w := by
  cases hq : P.info? elem with
  | none => simp [hq] at hs
  | some i =>
    have hl : ∀ (x : Addr), (loadCells x 0).run P w = .ok #[] w := fun x => by simpa using run_loadCells_list (P := P) w x [] (by simp)
    cases d <;> cases a <;> simp [Builtin.copy_, run_underlying hu, Builtin.lenOf, Builtin.firstCells, sizeOf, typeInfo, hq, hn, storeCells, hl]

theorem But.setRow {w : World} (g : Nat) (cs : Array Value) : But (· = g) w (w.setRow g cs) :=
  ⟨rfl, rfl, rfl, by simp [World.setRow], fun k _ hs => setRow_other w g k cs hs⟩

/-- copy: the place and the cells are given -/
theorem wpList_copy_kk {P : Program} {w : World} {ops : Array Oper} {rest : List Oper} {o : Oper} {a : Act} {Q : Exit → Act → World → Prop} (hgd : o.guard = none) (d s : Operand) (dT sT : TypeId)
    (ho : o.op = .call { callee := .builtin .copy, args := #[d, s], argTypes := #[dT, sT] }) (elem : TypeId) (k : Nat) (hu : P.underlying dT = some (.slice elem)) (hsz : (P.info? elem).map (·.size) = some k)
    (dp sp : Option Addr) (dLen dCap sLen sCap : Nat) (hd : a.eval d = .slice dp dLen dCap) (hs : a.eval s = .slice sp sLen sCap)
    (g off : Nat) (cur : List Value) (t : TypeId) (hg : w.heap[g]? = some (.cells cur.toArray t (0, 0))) (cs : List Value) (n : Nat) (hn : n = Nat.min sLen dLen) (hcs : cs.length = n * k)
    (hpos : 0 < n → dp = some ⟨g, off, none⟩ ∧ ∃ ad, sp = some ad ∧ ∀ j v, cs[j]? = some v → w.cell? (ad.add j) = some v)
    (hfit : off + cs.length ≤ cur.length) (h1 : ∀ v ∈ cs, v.oneCell' = true)
    (h : ∀ w', Hid (w'.heap[g]? = some (.cells (splice cur off cs).toArray t (0, 0))) → Hid (But (· = g) w w') → wpList P ops Q rest (a.put o.dst (goInt n)) w') : wpList P ops Q (o :: rest) a w := by
  refine wpList_plain hgd fun K hK => ?_
  by_cases h0 : n = 0
  · subst h0
    obtain rfl : cs = [] := List.eq_nil_of_length_eq_zero (by omega)
    have hrun := run_copy_nonek (P := P) w dT sT o.type elem k dp sp dLen dCap sLen sCap hu hsz hn.symm
    unfold Oper.wp
    simp [execOp, ho, resolve, invoke, builtin, hd, hs, hrun, Result.andThen]
    exact hK _ _ (h w (show _ = _ by simpa [splice] using hg) (But.refl _ w))
  · obtain ⟨rfl, ad, rfl, hsrc⟩ := hpos (by omega)
    have hrun := run_copy_rowk (P := P) w dT sT o.type elem k g off dLen dCap ad sLen sCap cur.toArray t cs n hu hsz hg hn hcs hsrc (by simpa using hfit) h1
    unfold Oper.wp
    simp [execOp, ho, resolve, invoke, builtin, hd, hs, hrun, Result.andThen]
    have h3 : ∀ w', w' = w.setRow g (cur.take off ++ (cs ++ cur.drop (off + cs.length))).toArray → K (a.put o.dst (goInt n)) w' := by
      rintro w' rfl
      exact hK _ _ (h _ (show _ = _ by simpa [splice] using setRow_heap w g _ _ t _ hg) (But.setRow g _))
    refine h3 _ ?_
    simp
theorem splice_two {α : Type} {Z c1 c2 : List α} (h : Z.length = c1.length + c2.length) : splice (splice Z 0 c1) c1.length c2 = c1 ++ c2 := by
  unfold splice
  simp
  omega

theorem sl181 : Try.prog.underlying 181 = some (.slice (Try.prog.elem 181)) := by kernel_rfl
theorem elem181 (w : World) : (sizeOf (Try.prog.elem 181)).run Try.prog w = .ok 2 w := by kernel_rfl
/-- what is left of a row of pairs from a place on -/
theorem slice181_l (g N c l : Nat) (hl : l ≤ N) (_hc : N ≤ c) : ∃ d : Addr, (l < c → d = ⟨g, l * 2, none⟩) ∧
    ∀ w : World, (Instr.slice 181 (.slice (some ⟨g, 0, none⟩) N c) (some (.int .i64 (l : Int))) none none).run Try.prog w = .ok (.slice (some d) (N - l) (c - l)) w := by
  refine ⟨if c = l then ⟨g, 0, none⟩ else ⟨g, l * 2, none⟩, fun h => by rw [if_neg (by omega)], fun w => ?_⟩
  rw [run_slice_l w 181 _ N c sl181 .i64 l (by omega) (by omega), elem181]
  simp only [Result.andThen_ok, sliced, Int.toNat_natCast, Option.map_some, addr_add, Nat.zero_add]
  split <;> rfl
theorem ecells_take (es : List (Int × Int)) (i : Nat) : ecells es = ecells (es.take i) ++ ecells (es.drop i) := by rw [← ecells_append, List.take_append_drop]

/-- two rows that differ in no more than block g -/
theorem But.more {S : Nat → Prop} {w W w' : World} {g : Nat} (h : But S w W) (hg : w.heap.size ≤ g) (hb : But (· = g) W w') : But S w w' :=
  ⟨hb.os.trans h.os, hb.tape.trans h.tape, hb.output.trans h.output, Nat.le_trans h.size hb.size, fun k hk hs => (hb.block k (Nat.lt_of_lt_of_le hk h.size) (by omega)).trans (h.block k hk hs)⟩
theorem But.below' {w W w' : World} {g B : Nat} (h : Below B w W) (hg : B ≤ g) (hB : B ≤ W.heap.size) (hb : But (· = g) W w') : Below B w w' :=
  ⟨hb.os.trans h.os, hb.tape.trans h.tape, hb.output.trans h.output, Nat.le_trans h.size hb.size, fun k hk => (hb.block k (by omega) (by omega)).trans (h.block k hk)⟩
end Go.Proofs.Ytpkndcmgialgcaa

namespace Go.Proofs.Ytpkndcmgialgcaa
open Go.RowKit

set_option maxRecDepth 100000 in
set_option maxHeartbeats 400000 in
theorem col_del_n (mo mu sh : Int) (b rb : Nat) (x : Int) (nb c : Nat) (es : List (Int × Int)) (key : Int) (sf hh : Int) (mt : Bool) (hl : es.length < 100000000) (w : World)
    (hblk : w.heap[b]? = some (.cells #[.int .u32 x, .slice (some ⟨nb, 0, none⟩) es.length c] 189 (0, 0)))
    (hk : ∀ (i : Nat) (x : Int × Int), es[i]? = some x → w.cell? ⟨nb, i * 2, none⟩ = some (.int .i64 x.1) ∧ w.cell? ⟨nb, i * 2 + 1, none⟩ = some (.int .i64 x.2))
    (hf : Flag w rb false) (hno : ∀ y ∈ es, y.1 ≠ key) :
    Calls Try.prog 178 #[.pointer (some ⟨b, 0, none⟩), .int .i64 key, .int .u64 sf, .int .u32 hh, .iface 175 (av mo mu sh), .bool mt, .pointer (some ⟨rb, 0, none⟩)] w fun e w' => e = .returned (.iface 187 (.pointer (some ⟨b, 0, none⟩))) ∧ But (· = rb) w w' ∧ Flag w' rb false := by
  have HI := Lib.hid (idx_c mo mu sh b nb c es key w (by omega) (cell_at (j := 1) hblk rfl) (fun i y hy => (hk i y hy).1))
  have HF := Lib.hid hf
  have HN := Lib.hid hno
  clear hblk hk hf hno
  go_enter Try.func178, Try.ntmps178
  go_wp2_with fail
  refine HI.out.mono ?_
  rintro e w1 ⟨hb, ⟨rfl, -⟩ | ⟨i, y, hy, hyk, -, -⟩⟩
  · have HB := Lib.hid hb
    clear hb
    go_wp2_with fail
    go_ret
    exact ⟨rfl, But.of_below HB.out, HF.out.below HB.out⟩
  · exact absurd hyk (HN.out y (List.mem_of_getElem? hy))

set_option maxRecDepth 100000 in
set_option maxHeartbeats 800000 in
theorem col_del_v (mo mu sh : Int) (b rb : Nat) (x : Int) (nb c : Nat) (es : List (Int × Int)) (key : Int) (sf hh : Int) (mt : Bool) (hl : es.length = 2) (w : World)
    (hblk : w.heap[b]? = some (.cells #[.int .u32 x, .slice (some ⟨nb, 0, none⟩) es.length c] 189 (0, 0)))
    (hk : ∀ (i : Nat) (x : Int × Int), es[i]? = some x → w.cell? ⟨nb, i * 2, none⟩ = some (.int .i64 x.1) ∧ w.cell? ⟨nb, i * 2 + 1, none⟩ = some (.int .i64 x.2)) (hnb : nb ≠ rb)
    (hf : Flag w rb false) (y0 z0 : Int × Int) (i j : Nat) (hij : i + j = 1) (hy0 : es[i]? = some y0) (hyk : y0.1 = key) (hz0 : es[j]? = some z0) (ho : ∀ y j, es[j]? = some y → y.1 = key → j = i) :
    Calls Try.prog 178 #[.pointer (some ⟨b, 0, none⟩), .int .i64 key, .int .u64 sf, .int .u32 hh, .iface 175 (av mo mu sh), .bool mt, .pointer (some ⟨rb, 0, none⟩)] w fun e w' =>
      ∃ q, e = .returned (.iface 184 (.pointer (some ⟨q, 0, none⟩))) ∧ w.heap.size ≤ q ∧ w'.heap[q]? = some (.cells #[.int .u32 x, .int .i64 z0.1, .int .i64 z0.2] 186 (0, 0)) ∧ But (· = rb) w w' ∧ Flag w' rb true := by
  have HI := Lib.hid (idx_c mo mu sh b nb c es key w (by omega) (cell_at (j := 1) hblk rfl) (fun i y hy => (hk i y hy).1))
  have HF := Lib.hid hf
  have HBLK := Lib.hid hblk
  have hbr := Lib.hid (hf.other hblk (by decide))
  have HK := Lib.hid hk
  have HO := Lib.hid ho
  have HY := Lib.hid (And.intro hy0 hyk)
  have HZ := Lib.hid hz0
  have HNB := Lib.hid hnb
  have HJ := Lib.hid hij
  have HL := Lib.hid hl
  clear hblk hk hf ho hy0 hyk hz0 hnb hij hl
  go_enter Try.func178, Try.ntmps178
  go_wp2_with fail
  refine HI.out.mono ?_
  rintro e w1 ⟨hb, ⟨rfl, hno⟩ | ⟨i', y, hy, hyk, -, rfl⟩⟩
  · exact absurd HY.out.2 (hno y0 (List.mem_of_getElem? HY.out.1))
  · obtain rfl : i' = i := HO.out y i' hy hyk
    have HB := Lib.hid hb
    have HF1 := Lib.hid (HF.out.below HB.out)
    have hr' := cell_at (j := 0) HF1.out rfl
    have hz' : w1.frozen? ⟨rb, 0, none⟩ = false := frozen_of_row _ _ _ _ _ HF1.out
    have hne : ((i' : Int) == -1) = false := by simp
    clear hb hy hyk
    go_upto_region 5 with (fail)
    have HB2 : Hid (But (· = rb) w (w1.setCell ⟨rb, 0, none⟩ (.bool true))) := (But.of_below HB.out).set _
    have HF2 : Hid (Flag (w1.setCell ⟨rb, 0, none⟩ (.bool true)) rb true) := HF1.out.set true
    clear hr' hz' hne HF1 HB
    generalize w1.setCell ⟨rb, 0, none⟩ (.bool true) = w2 at HB2 HF2 ⊢
    clear w1
    have hc0 := cell_at (j := 0) (HB2.out.at HBLK.out hbr.out) rfl
    have hc1 := cell_at (j := 1) (HB2.out.at HBLK.out hbr.out) rfl
    have h2 : ((es.length : Int) == 2) = true := by rw [HL.out]; rfl
    have hnbs : nb < w.heap.size := World.block_lt_of_cell? w _ (HK.out j z0 HZ.out).1
    have hcc : ∀ o, w2.cell? ⟨nb, o, none⟩ = w.cell? ⟨nb, o, none⟩ := fun o => by simp only [World.cell?, HB2.out.block nb hnbs HNB.out]
    have hk0 := (hcc (j * 2)).trans (HK.out j z0 HZ.out).1
    have hk1 := (hcc (j * 2 + 1)).trans (HK.out j z0 HZ.out).2
    have hx : bits BinOp.xor IntKind.i64 (i' : Int) 1 = (j : Int) := by
      have := HJ.out
      rcases i' with _ | i'
      · obtain rfl : j = 1 := by omega
        rfl
      · obtain rfl : i' = 0 := by omega
        obtain rfl : j = 0 := by omega
        rfl
    have hjl : j < es.length := by rw [HL.out]; have := HJ.out; omega
    clear hcc hnbs
    go_upto_region 6 with (fail)
    refine region_tail 23 (by kernel_rfl) (by kernel_rfl) ?_
    simp only [List.take_succ_cons, List.take_zero, List.drop_succ_cons, List.drop_zero]
    repeat still_step
    refine wpStill_nil ?_
    go_wp2_with fail
    go_ret
    refine ⟨_, rfl, HB2.out.size, ?_, ((HB2.out.drew).alloc _), ?_⟩
    · exact heap_alloc_last _ _
    · exact at_alloc HF2.out

set_option maxRecDepth 100000 in
set_option maxHeartbeats 1600000 in
theorem col_del_c (mo mu sh : Int) (b rb : Nat) (x : Int) (nb c : Nat) (es : List (Int × Int)) (key : Int) (sf hh : Int) (hl : es.length < 100000000) (hl2 : 2 < es.length) (hcap : es.length ≤ c) (w : World)
    (hblk : w.heap[b]? = some (.cells #[.int .u32 x, .slice (some ⟨nb, 0, none⟩) es.length c] 189 (0, 0)))
    (hk : ∀ (i : Nat) (x : Int × Int), es[i]? = some x → w.cell? ⟨nb, i * 2, none⟩ = some (.int .i64 x.1) ∧ w.cell? ⟨nb, i * 2 + 1, none⟩ = some (.int .i64 x.2)) (hnb : nb ≠ rb)
    (hf : Flag w rb false) (y0 : Int × Int) (i : Nat) (hy0 : es[i]? = some y0) (hyk : y0.1 = key) (ho : ∀ y j, es[j]? = some y → y.1 = key → j = i) :
    Calls Try.prog 178 #[.pointer (some ⟨b, 0, none⟩), .int .i64 key, .int .u64 sf, .int .u32 hh, .iface 175 (av mo mu sh), .bool false, .pointer (some ⟨rb, 0, none⟩)] w
      (ColPost w rb true x (es.take i ++ es.drop (i + 1))) := by
  have HI := Lib.hid (idx_c mo mu sh b nb c es key w (by omega) (cell_at (j := 1) hblk rfl) (fun i y hy => (hk i y hy).1))
  have HF := Lib.hid hf
  have HBLK := Lib.hid hblk
  have hbr := Lib.hid (hf.other hblk (by decide))
  have HK := Lib.hid hk
  have HO := Lib.hid ho
  have HY := Lib.hid (And.intro hy0 hyk)
  have HNB := Lib.hid hnb
  clear hblk hk hf ho hy0 hyk hnb
  go_enter Try.func178, Try.ntmps178
  go_wp2_with fail
  refine HI.out.mono ?_
  rintro e w1 ⟨hb, ⟨rfl, hno⟩ | ⟨i', y, hy, hyk, -, rfl⟩⟩
  · exact absurd HY.out.2 (hno y0 (List.mem_of_getElem? HY.out.1))
  · obtain rfl : i' = i := HO.out y i' hy hyk
    have hil : i' < es.length := by
      rcases Nat.lt_or_ge i' es.length with h | h
      · exact h
      · rw [List.getElem?_eq_none h] at hy; cases hy
    have HB := Lib.hid hb
    have HF1 := Lib.hid (HF.out.below HB.out)
    have hr' := cell_at (j := 0) HF1.out rfl
    have hz' : w1.frozen? ⟨rb, 0, none⟩ = false := frozen_of_row _ _ _ _ _ HF1.out
    have hne : ((i' : Int) == -1) = false := by simp
    clear hb hy hyk
    go_upto_region 5 with (fail)
    have HB2 : Hid (But (· = rb) w (w1.setCell ⟨rb, 0, none⟩ (.bool true))) := (But.of_below HB.out).set _
    have HF2 : Hid (Flag (w1.setCell ⟨rb, 0, none⟩ (.bool true)) rb true) := HF1.out.set true
    clear hr' hz' hne HF1 HB
    generalize w1.setCell ⟨rb, 0, none⟩ (.bool true) = w2 at HB2 HF2 ⊢
    clear w1
    have hc0 := cell_at (j := 0) (HB2.out.at HBLK.out hbr.out) rfl
    have hc1 := cell_at (j := 1) (HB2.out.at HBLK.out hbr.out) rfl
    have h2 : ((es.length : Int) == 2) = false := by simp; omega
    obtain ⟨N, hN⟩ : ∃ N, N = es.length - 1 := ⟨_, rfl⟩
    have hw1 : IntKind.i64.wrap ((es.length : Int) - 1) = (N : Int) := by rw [IntKind.wrap_i64]; omega
    have hw2 : (es.length : Int) - 1 = (N : Int) := by omega
    have hw3 : IntKind.i64.wrap (N : Int) = (N : Int) := by rw [IntKind.wrap_i64]; omega
    obtain ⟨Z, hZl, hmk⟩ := make181 w2.drew N (by omega)
    have HNN := Lib.hid hN
    have HZL := Lib.hid hZl
    clear hZl hN
    go_upto_region 12 with (fail)
    have HR0 : Hid (Below w2.heap.size w2 w2.drew) := (Below.refl _ w2).drew
    have HL0 := Lib.hid (lt_of_block (HB2.out.at HBLK.out hbr.out))
    refine region_segsR (fun W => Below w2.heap.size w2 W) [([0, 1, 2, 3, 4, 5, 6, 7, 8, 9], [10]), ([11], [12]), ([], [13])] (by kernel_rfl) (by intro dst v c a w h; cases dst <;> exact h) (by kernel_rfl) HR0.out ?_
    refine r_segs ?_
    simp only [opsOf, List.getElem?_toArray, List.getElem?_cons_succ, List.getElem?_cons_zero]
    repeat (refine r_read ?_ (by kernel_rfl) ?_ (fun K hK => ?_); rotate_left 1; (intro W hR; have hc0 := (hR.cell HL0.out).trans hc0; have hc1 := (hR.cell HL0.out).trans hc1; clear hR; go_simp; try with_reducible rfl); go_simp; refine hK _ ?_; clear hK K)
    refine r_nil1 ?_
    refine r_op rfl (fun K hK => ?_)
    go_simp
    refine hK _ _ (HR0.out.alloc (Nat.le_refl _) _) ?_
    clear hK K
    refine r_segs ?_
    simp only [opsOf, List.getElem?_toArray, List.getElem?_cons_succ, List.getElem?_cons_zero]
    repeat (refine r_read ?_ (by kernel_rfl) ?_ (fun K hK => ?_); rotate_left 1; (intro W hR; clear hR; go_simp; try with_reducible rfl); go_simp; refine hK _ ?_; clear hK K)
    refine r_nil1 ?_
    refine r_op rfl (fun K hK => ?_)
    go_simp
    have HR1 : Hid (Below w2.heap.size w2 ((w2.alloc (Obj.cells Z.toArray 180)).alloc (Obj.cells #[Value.int IntKind.u32 x, Value.slice (some ⟨w2.heap.size, 0, none⟩) N N] 189)).drew) := (((Below.refl _ w2).alloc (Nat.le_refl _) _).alloc (by rw [size_alloc]; omega) _).drew
    refine hK _ _ HR1.out ?_
    clear hK K
    refine r_segs ?_
    simp only [opsOf]
    refine r_nil1 ?_
    refine r_op rfl (fun K hK => ?_)
    go_simp
    refine hK _ _ HR1.out ?_
    clear hK K
    refine r_end ?_
    have HB3 : Hid (But (· = rb) w ((w2.alloc (Obj.cells Z.toArray 180)).alloc (Obj.cells #[Value.int IntKind.u32 x, Value.slice (some ⟨w2.heap.size, 0, none⟩) N N] 189)).drew) := ((HB2.out.alloc _).alloc _).drew
    have HF3 : Hid (Flag ((w2.alloc (Obj.cells Z.toArray 180)).alloc (Obj.cells #[Value.int IntKind.u32 x, Value.slice (some ⟨w2.heap.size, 0, none⟩) N N] 189)).drew rb true) := at_alloc (at_alloc HF2.out)
    have HZ4 : Hid (((w2.alloc (Obj.cells Z.toArray 180)).alloc (Obj.cells #[Value.int IntKind.u32 x, Value.slice (some ⟨w2.heap.size, 0, none⟩) N N] 189)).drew.heap[w2.heap.size + 1]? = some (.cells #[Value.int IntKind.u32 x, Value.slice (some ⟨w2.heap.size, 0, none⟩) N N] 189 (0, 0))) := by
      have h := heap_alloc_last (w2.alloc (Obj.cells Z.toArray 180)) (Obj.cells #[Value.int IntKind.u32 x, Value.slice (some ⟨w2.heap.size, 0, none⟩) N N] 189)
      rw [size_alloc] at h
      exact h
    have HR4 : Hid (((w2.alloc (Obj.cells Z.toArray 180)).alloc (Obj.cells #[Value.int IntKind.u32 x, Value.slice (some ⟨w2.heap.size, 0, none⟩) N N] 189)).drew.heap[w2.heap.size]? = some (.cells Z.toArray 180 (0, 0))) := at_alloc (heap_alloc_last w2 _)
    have HGE : Hid (w.heap.size ≤ w2.heap.size) := HB2.out.size
    clear hc0 hc1 hmk hw1 hw2 hw3 HB2 HF2 HR0 HR1 HL0 h2
    generalize ((w2.alloc (Obj.cells Z.toArray 180)).alloc (Obj.cells #[Value.int IntKind.u32 x, Value.slice (some ⟨w2.heap.size, 0, none⟩) N N] 189)).drew = W3 at HB3 HF3 HZ4 HR4 ⊢
    generalize w2.heap.size = g at HZ4 HR4 HGE ⊢
    clear w2
    obtain ⟨b', hb'⟩ : ∃ b', b' = g + 1 := ⟨_, rfl⟩
    rw [← hb'] at HZ4 ⊢
    have HBG := Lib.hid hb'
    clear hb'
    have hc1 := cell_at (j := 1) (HB3.out.at HBLK.out hbr.out) rfl
    have h41 := cell_at (j := 1) HZ4.out rfl
    have hiN : i' ≤ N := by have := HNN.out; omega
    have hic : i' ≤ c := by omega
    go_upto_region 13 with (fail)
    refine region_tail 12 (by kernel_rfl) (by kernel_rfl) ?_
    simp only [List.take_succ_cons, List.take_zero, List.drop_succ_cons, List.drop_zero]
    repeat still_step
    refine wpStill_nil ?_
    obtain ⟨c1, hcc1⟩ : ∃ c1, c1 = ecells (es.take i') := ⟨_, rfl⟩
    obtain ⟨c2, hcc2⟩ : ∃ c2, c2 = ecells (es.drop (i' + 1)) := ⟨_, rfl⟩
    have hl1 : c1.length = i' * 2 := by rw [hcc1, ecells_len, List.length_take]; congr 1; omega
    have hl2 : c2.length = (N - i') * 2 := by rw [hcc2, ecells_len, List.length_drop]; congr 1; have := HNN.out; omega
    have HC := Lib.hid (And.intro hcc1 hcc2)
    have HC1 := Lib.hid hl1
    have HC2 := Lib.hid hl2
    clear hcc1 hcc2 hl1 hl2
    have hnbs : nb < w.heap.size := World.block_lt_of_cell? w _ (HK.out i' y0 HY.out.1).1
    have HSRC : ∀ W, But (· = rb) w W → ∀ j v, (ecells es)[j]? = some v → W.cell? ((⟨nb, 0, none⟩ : Addr).add j) = some v := fun W hW => by
      refine src_cells fun i y hy => ?_
      have h6 := hW.block nb hnbs HNB.out
      exact ⟨by rw [World.cell?, h6]; exact (HK.out i y hy).1, by rw [World.cell?, h6]; exact (HK.out i y hy).2⟩
    have HSRC := Lib.hid HSRC
    refine wpList_copy_kk rfl (.tmp 119) (.tmp 125) 181 181 rfl 180 2 Try.underlying181 size180 (some ⟨g, 0, none⟩) (some ⟨nb, 0, none⟩) i' N i' c rfl rfl g 0 Z 180 HR4.out c1 i' (Nat.min_self _).symm HC1.out (fun _ => ⟨rfl, _, rfl, fun j v hj => HSRC.out _ HB3.out.drew j v ?_⟩) (by rw [HC1.out, HZL.out]; omega) (by rw [HC.out.1]; exact ecells_one) ?_
    · rw [ecells_take es i', ← HC.out.1, List.getElem?_append_left (List.getElem?_eq_some_iff.1 hj).1]
      exact hj
    intro W4 HR5 hb4
    have HB4 : Hid (But (· = rb) w W4) := But.more HB3.out.drew HGE.out hb4.out
    have HF4 : Hid (Flag W4 rb true) := (hb4.out.block rb (lt_of_block HF3.out) (by have := lt_of_block HF.out; have := HGE.out; omega)).trans HF3.out
    have HZ5 : Hid (W4.heap[b']? = some (.cells #[.int .u32 x, .slice (some ⟨g, 0, none⟩) N N] 189 (0, 0))) := (hb4.out.block b' (lt_of_block HZ4.out) (by have := HBG.out; omega)).trans HZ4.out
    clear hb4 HB3 HF3 HZ4 HR4 hc1 h41
    clear W3
    have hc1 := cell_at (j := 1) (HB4.out.at HBLK.out hbr.out) rfl
    have h41 := cell_at (j := 1) HZ5.out rfl
    have hw2 : IntKind.i64.wrap ((i' : Int) + 1) = (i' : Int) + 1 := by rw [IntKind.wrap_i64]; omega
    obtain ⟨d1, hd1, hs1⟩ := slice181_l g N N i' hiN (Nat.le_refl _)
    obtain ⟨d2, hd2, hs2⟩ := slice181_l nb es.length c (i' + 1) (by omega) hcap
    have HD := Lib.hid (And.intro hd1 hd2)
    have hs2 : ∀ w : World, (Instr.slice 181 (.slice (some ⟨nb, 0, none⟩) es.length c) (some (.int .i64 ((i' : Int) + 1))) none none).run Try.prog w = .ok (.slice (some d2) (es.length - (i' + 1)) (c - (i' + 1))) w := hs2
    clear hd1 hd2
    go_upto_region 14 with (fail)
    refine region_tail 13 (by kernel_rfl) (by kernel_rfl) ?_
    simp only [List.take_succ_cons, List.take_zero, List.drop_succ_cons, List.drop_zero]
    repeat still_step
    refine wpStill_nil ?_
    refine wpList_copy_kk rfl (.tmp 132) (.tmp 139) 181 181 rfl 180 2 Try.underlying181 size180 (some d1) (some d2) (N - i') (N - i') (es.length - (i' + 1)) (c - (i' + 1)) rfl rfl g c1.length (splice Z 0 c1) 180 HR5.out c2 (N - i') (by show _ = min _ _; have := HNN.out; omega) HC2.out (fun h9 => ⟨by rw [HD.out.1 (by omega), HC1.out], d2, rfl, fun j v hj => ?_⟩) (by rw [length_splice _ _ _ (by rw [HC1.out, HZL.out]; omega), HC2.out, HC1.out, HZL.out]; omega) (by rw [HC.out.2]; exact ecells_one) ?_
    · have h7 := HSRC.out _ HB4.out.drew ((i' + 1) * 2 + j) v (by rw [ecells_take es (i' + 1), ← HC.out.2, List.getElem?_append_right (by rw [ecells_len, List.length_take]; omega), ecells_len, List.length_take]; rw [show (i' + 1) * 2 + j - min (i' + 1) es.length * 2 = j by rw [Nat.min_eq_left (by omega)]; omega]; exact hj)
      rw [addr_add, Nat.zero_add] at h7
      rw [HD.out.2 (by have := HNN.out; omega), addr_add]
      exact h7
    intro W5 hr5 hb5
    have hrow := hr5.out
    rw [splice_two (by rw [HC1.out, HC2.out, HZL.out]; omega), HC.out.1, HC.out.2, ← ecells_append] at hrow
    have HROW := Lib.hid hrow
    have HB5 : Hid (But (· = rb) w W5) := But.more HB4.out.drew HGE.out hb5.out
    have HF5 : Hid (Flag W5 rb true) := (hb5.out.block rb (lt_of_block HF4.out) (by have := lt_of_block HF.out; have := HGE.out; omega)).trans HF4.out
    have HZ6 : Hid (W5.heap[b']? = some (.cells #[.int .u32 x, .slice (some ⟨g, 0, none⟩) N N] 189 (0, 0))) := (hb5.out.block b' (lt_of_block HZ5.out) (by have := HBG.out; omega)).trans HZ5.out
    clear hb5 hr5 hrow HB4 HF4 HZ5 HR5 hc1 h41
    clear W4
    go_wp2
    go_ret
    have hlen : (es.take i' ++ es.drop (i' + 1)).length = N := by rw [List.length_append, List.length_take, List.length_drop]; have := HNN.out; omega
    exact ⟨b', g, rfl, by have := HBG.out; have := HGE.out; omega, HGE.out, by rw [hlen]; exact HZ6.out, HROW.out, HB5.out, HF5.out⟩
end Go.Proofs.Ytpkndcmgialgcaa
