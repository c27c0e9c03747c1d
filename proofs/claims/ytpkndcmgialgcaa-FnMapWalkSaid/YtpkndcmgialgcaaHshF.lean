/- The walks over a branch with 32 places that shrinks: delete.

The walk over a branch with 32 places that shrinks to one with a bitmap: delete. -/
import Derived.Test.YtpkndcmgialgcaaOwn
namespace Go.Proofs.Ytpkndcmgialgcaa
open Go.RowKit

/-- the children that q says, ahead of n -/
def kidL (q : Nat → Bool) (kid : Nat → Value) (n : Nat) : List Value := ((List.range n).filter q).map kid
theorem kidL_len (q : Nat → Bool) (kid : Nat → Value) (n : Nat) : (kidL q kid n).length = cnt q n := by unfold kidL cnt; rw [List.length_map]
theorem kidL_t {q : Nat → Bool} (kid : Nat → Value) {n : Nat} (h : q n = true) : kidL q kid (n + 1) = kidL q kid n ++ [kid n] := by
  unfold kidL
  rw [List.range_succ, List.filter_append, List.map_append]
  simp [h]
theorem kidL_f {q : Nat → Bool} (kid : Nat → Value) {n : Nat} (h : q n = false) : kidL q kid (n + 1) = kidL q kid n := by
  unfold kidL
  rw [List.range_succ, List.filter_append, List.map_append]
  simp [h]
theorem kidL_at {q : Nat → Bool} (kid : Nat → Value) : ∀ {n f : Nat}, f < n → q f = true → (kidL q kid n)[cnt q f]? = some (kid f)
  | 0, f, h, _ => by omega
  | n + 1, f, h, hq => by
    by_cases e : f = n
    · subst e
      rw [kidL_t kid hq, List.getElem?_append_right (by rw [kidL_len]; exact Nat.le_refl _), kidL_len, Nat.sub_self]
      rfl
    · have ih := kidL_at kid (n := n) (f := f) (by omega) hq
      cases hn : q n with
      | true =>
        rw [kidL_t kid hn, List.getElem?_append_left (by rw [kidL_len]; exact cnt_lt q (by omega) hq)]
        exact ih
      | false => rw [kidL_f kid hn]; exact ih

/-- make of an empty row of nodes with room -/
theorem make253_0 (w : World) (c : Nat) (hc : c ≤ 1000000000) : ∃ Z : List Value, Z.length = c ∧
    (Instr.makeSlice 253 (.int .i64 0) (.int .u64 (c : Int))).run Try.prog w = .ok (.slice (some ⟨w.heap.size, 0, none⟩) 0 c) (w.alloc (.cells Z.toArray 165)) := by
  have h := info165
  cases hq : Try.prog.info? 165 with
  | none => rw [hq] at h; cases h
  | some i =>
    rw [hq] at h
    simp only [Option.map_some, Option.some.injEq, Prod.mk.injEq] at h
    obtain ⟨h1, h2, h3⟩ := h
    have hr := run_make w 253 165 i _ Try.underlying253 hq h3 .i64 .u64 0 c (by omega) (by omega) (by rw [h2]; omega) (by omega)
    rw [h1, Int.toNat_natCast, Nat.mul_one] at hr
    refine ⟨(madeCells (Value.nilIface).cells c).toList, ?_, by rw [Array.toArray_toList]; exact hr⟩
    rw [Array.length_toList, size_madeCells]

/-- a load of several cells -/
theorem wp_load_at {P : Program} {o : Oper} {a : Act} {w : World} {K : Act → World → Prop} {Q : Exit → Act → World → Prop} (ty : TypeId) (x : Operand) (ho : o.op = .load ty x)
    (ad : Addr) (hx : a.eval x = .pointer (some ad)) (cs : List Value) (hcs : ∀ j v, cs[j]? = some v → w.cell? (ad.add j) = some v) (d : TypeDesc)
    (hu : P.underlying ty = some d) (hd : (match d with | .struct _ | .array _ _ => true | _ => false) = true) (hi : (P.info? ty).map (·.size) = some cs.length)
    (h : K (a.put o.dst (.agg cs.toArray)) w) : o.wp P a w K Q := by
  have hl := run_loadCells_list (P := P) w ad cs hcs
  cases hq : P.info? ty with
  | none => simp [hq] at hi
  | some i =>
    have hs : i.size = cs.length := by simpa [hq] using hi
    have hagg : (isAgg ty).run P w = .ok true w := by
      unfold isAgg
      rw [Sem.run_bind, run_underlying hu w]
      cases d <;> simp_all
    have hlv : (loadVar ty ad).run P w = .ok (.agg cs.toArray) w := by
      simp [loadVar, Sem.run_bind, hagg, sizeOf, typeInfo, hq, hs, hl]
    unfold Oper.wp execOp
    simp only [ho, hx, Instr.loadAt, Instr.sureAddr, Sem.run_bind, Sem.run_pure, Result.andThen_ok, hlv]
    exact h
theorem wpList_load_at {P : Program} {ops : Array Oper} {rest : List Oper} {o : Oper} {a : Act} {w : World} {Q : Exit → Act → World → Prop} (hgd : o.guard = none) (ty : TypeId) (x : Operand) (ho : o.op = .load ty x)
    (ad : Addr) (hx : a.eval x = .pointer (some ad)) (cs : List Value) (hcs : ∀ j v, cs[j]? = some v → w.cell? (ad.add j) = some v) (d : TypeDesc)
    (hu : P.underlying ty = some d) (hd : (match d with | .struct _ | .array _ _ => true | _ => false) = true) (hi : (P.info? ty).map (·.size) = some cs.length)
    (h : wpList P ops Q rest (a.put o.dst (.agg cs.toArray)) w) : wpList P ops Q (o :: rest) a w :=
  wpList_plain hgd fun _ hK => wp_load_at ty x ho ad hx cs hcs d hu hd hi (hK _ _ h)
theorem info165' : (Try.prog.info? 165).map (fun i => (i.zero, i.size, i.bytes)) = some (some .nilIface, 1, 16) := by kernel_rfl
theorem under257 : Try.prog.underlying 257 = some (.array 32 165) := by kernel_rfl
theorem size257 : (Try.prog.info? 257).map (·.size) = some 32 := by kernel_rfl
theorem under165 : ∀ w, (isAgg 165).run Try.prog w = .ok false w := fun w => by kernel_rfl
theorem index257 (cs : Array Value) (f : Nat) (v : Value) (hf : f < 32) (h : cs[f]? = some v) (w : World) : (Instr.index 257 (.agg cs) (.int .i64 (f : Int))).run Try.prog w = .ok v w := by
  have h1 : (0 : Int) ≤ f ∧ (f : Int) < 32 := by omega
  have hsz : (sizeOf 165).run Try.prog w = .ok 1 w := by kernel_rfl
  simp [Instr.index, run_underlying under257, asIntOf, h1, go_sem, hsz, h]
  omega
end Go.Proofs.Ytpkndcmgialgcaa

namespace Go.Proofs.Ytpkndcmgialgcaa
open Go.RowKit

theorem row_push {w : World} {B b n : Nat} {e t : TypeId} {v : Value} {xs : List Value} {c : Array Value} (x : Value) (h : w.ownsRow B e 1 v n xs) (hb : w.heap[b]? = some (.cells c t (0, 0))) (he : e ≠ t) {w' : World} (hg : (w.alloc (.cells #[x] 165)).grownBy w' v.ownBlock) :
    w'.heap[b]? = some (.cells c t (0, 0)) := by
  have hlt := lt_of_block hb
  rw [hg.block b (by rw [size_alloc]; omega) fun e1 => own_off h hb he b e1.symm rfl]
  exact at_alloc hb

set_option maxRecDepth 100000 in
set_option maxHeartbeats 1600000 in
theorem hsh_del_b (H : Value) (b rb : Nat) (arr : Array Value) (sf hh : Nat) (key : Int) (j : Nat) (hj : j < 32) (hs : sf < 32) (hb : bits BinOp.and IntKind.u32 ((hh : Int) / 2 ^ sf) 31 = (j : Int)) (w : World)
    (hblk : w.heap[b]? = some (.cells arr 259 (0, 0))) (hsz : arr.size = 33) (kid : Nat → Value) (pp : Nat → Bool) (hk : ∀ f, f < 32 → arr[1 + f]? = some (kid f)) (hne : b ≠ rb) (p t fid : Nat) (hc : arr[1 + j]? = some (.iface t (.pointer (some ⟨p, 0, none⟩)))) (n : Nat) (h0 : arr[0]? = some (.int .u64 n)) (hn : n ≤ 16) (hn1 : 1 ≤ n)
    (hlit : ∀ f, f < 32 → if pp f = true then ∃ t q : Nat, kid f = .iface t (.pointer (some ⟨q, 0, none⟩)) else kid f = .nilIface) (mt : Bool)
    (hd : Disp t (.pointer (some ⟨p, 0, none⟩)) fid "pub-frond/pub/immutable.delete")
    (hcall : Calls Try.prog fid #[.pointer (some ⟨p, 0, none⟩), .int .i64 key, .int .u64 (sf + 5 : Nat), .int .u32 hh, H, .bool mt, .pointer (some ⟨rb, 0, none⟩)] w fun e w1 => e = .returned .nilIface ∧ But (· = rb) w w1 ∧ Flag w1 rb true) :
    Calls Try.prog 203 #[.pointer (some ⟨b, 0, none⟩), .int .i64 key, .int .u64 sf, .int .u32 hh, H, .bool mt, .pointer (some ⟨rb, 0, none⟩)] w fun e w' =>
      ∃ w1 b' m sl, But (· = rb) w w1 ∧ Flag w1 rb true ∧ e = .returned (.iface 252 (.pointer (some ⟨b', 0, none⟩))) ∧ w1.heap.size ≤ b' ∧ w'.heap[b']? = some (.cells #[.int .u32 (m : Nat), sl] 255 (0, 0)) ∧ Bm m (fun f => pp f && !decide (f = j)) ∧
        w'.ownsRow w1.heap.size 165 1 sl (cnt (fun f => pp f && !decide (f = j)) 32) (kidL (fun f => pp f && !decide (f = j)) kid 32) ∧ Below w1.heap.size w1 w' := by
  have hcj := cell_at hblk hc
  obtain ⟨h1, h2, h3⟩ := hd
  have H4 := Lib.hid hcall
  have HBLK := Lib.hid hblk
  have HNE := Lib.hid hne
  have HC := Lib.hid hc
  have H0 := Lib.hid h0
  have HN := Lib.hid (And.intro hn hn1)
  have HK := Lib.hid (And.intro hk hlit)
  clear hcall hblk hne hc h0 hn hn1 hk hlit
  obtain ⟨i165, hi, hz0, hz1, hz2⟩ := info_parts info165'
  have HI := Lib.hid (And.intro hi (And.intro hz0 (And.intro hz1 hz2)))
  clear hi hz0 hz1 hz2
  go_enter Try.func203, Try.ntmps203
  go_wp2_with fail
  refine H4.out.mono ?_
  rintro e w1 ⟨rfl, hb1, hf1⟩
  have HB := Lib.hid hb1
  have HF := Lib.hid hf1
  have HB1 := Lib.hid (hb1.at HBLK.out HNE.out)
  have hr' := cell_at (j := 0) hf1 rfl
  have hc0 := cell_at HB1.out H0.out
  have hle : decide ((n : Int) ≤ 16) = true := by simp; have := HN.out; omega
  have hle2 : n ≤ 16 := by have := HN.out; omega
  obtain ⟨N, hN⟩ : ∃ N, N = n - 1 := ⟨_, rfl⟩
  have hw1 : IntKind.u64.wrap ((n : Int) - 1) = (N : Int) := by rw [IntKind.wrap_u64]; have := HN.out; omega
  have hw2 : (n : Int) - 1 = (N : Int) := by have := HN.out; omega
  have hw3 : IntKind.u64.wrap (N : Int) = (N : Int) := by rw [IntKind.wrap_u64]; have := HN.out; omega
  obtain ⟨Z, hZl, hmk⟩ := make253_0 w1 N (by have := HN.out; omega)
  have HZL := Lib.hid hZl
  have HNN := Lib.hid hN
  clear hb1 hf1 hZl hN
  go_upto_region 10 with (fail)
  have HB5 : Hid (Below w1.heap.size w1 ((w1.alloc (Obj.cells Z.toArray 165)).alloc (Obj.cells #[Value.int IntKind.u32 0, Value.slice (some ⟨w1.heap.size, 0, none⟩) 0 N] 255))) := ((Below.refl _ _).alloc (Nat.le_refl _) _).alloc (by rw [size_alloc]; omega) _
  have HZ5 : Hid (((w1.alloc (Obj.cells Z.toArray 165)).alloc (Obj.cells #[Value.int IntKind.u32 0, Value.slice (some ⟨w1.heap.size, 0, none⟩) 0 N] 255)).heap[w1.heap.size + 1]? = some (.cells #[Value.int IntKind.u32 (0 : Nat), Value.slice (some ⟨w1.heap.size, 0, none⟩) 0 N] 255 (0, 0))) := by
    have h := heap_alloc_last (w1.alloc (Obj.cells Z.toArray 165)) (Obj.cells #[Value.int IntKind.u32 0, Value.slice (some ⟨w1.heap.size, 0, none⟩) 0 N] 255)
    rw [size_alloc] at h
    exact h
  have HO5 : Hid (((w1.alloc (Obj.cells Z.toArray 165)).alloc (Obj.cells #[Value.int IntKind.u32 0, Value.slice (some ⟨w1.heap.size, 0, none⟩) 0 N] 255)).ownsRow w1.heap.size 165 1 (Value.slice (some ⟨w1.heap.size, 0, none⟩) 0 N) 0 []) :=
    ⟨rfl, .inr ⟨w1.heap.size, N, Z.toArray, rfl, Nat.le_refl _, at_alloc (heap_alloc_last w1 _), Nat.zero_le _, by have := HN.out; have := HNN.out; unfold maxLen; omega, by rw [List.size_toArray, HZL.out, Nat.mul_one], by simp⟩⟩
  obtain ⟨A, hA⟩ : ∃ A : List Value, A = arr.toList.drop 1 := ⟨_, rfl⟩
  have hAl : (Try.prog.info? 257).map (·.size) = some A.length := by rw [size257, hA, List.length_drop, Array.length_toList, hsz]
  have HA : Hid (∀ f, f < 32 → A.toArray[f]? = some (kid f)) := fun f hf => by
    rw [List.getElem?_toArray, hA, List.getElem?_drop, Array.getElem?_toList]
    exact HK.out.1 f hf
  have HA2 : Hid (∀ i v, A[i]? = some v → arr[1 + i]? = some v) := fun i v hv => by
    rw [hA, List.getElem?_drop, Array.getElem?_toList] at hv
    exact hv
  clear hA hc0 hle hle2 hw1 hw2 hw3 hmk hr' hcj
  generalize (w1.alloc (Obj.cells Z.toArray 165)).alloc (Obj.cells #[Value.int IntKind.u32 0, Value.slice (some ⟨w1.heap.size, 0, none⟩) 0 N] 255) = W at HB5 HZ5 HO5 ⊢
  generalize Value.slice (some ⟨w1.heap.size, 0, none⟩) 0 N = sl at HZ5 HO5
  obtain ⟨b', hb'⟩ : ∃ b', b' = w1.heap.size + 1 := ⟨_, rfl⟩
  rw [← hb'] at HZ5 ⊢
  have HBE := Lib.hid hb'
  clear hb'
  have hcs : ∀ i v, A[i]? = some v → W.cell? ((⟨b, 1, none⟩ : Addr).add i) = some v := fun i v hv => by
    rw [addr_add]
    exact (HB5.out.cell (p := ⟨b, 1 + i, none⟩) (lt_of_block HB1.out)).trans (cell_at HB1.out (HA2.out i v hv))
  have HCS := Lib.hid hcs
  clear hcs
  go_wp2_with (with_reducible refine wpList_load_at rfl 257 _ rfl ⟨b, 1, none⟩ rfl A HCS.out _ under257 rfl hAl ?_)
  obtain ⟨q, hq⟩ : ∃ q : Nat → Bool, q = fun f => pp f && !decide (f = j) := ⟨_, rfl⟩
  have HQ := Lib.hid hq
  clear hq
  go_loopg [72] 32 (fun k v wr => ∃ (f m : Nat) (sl : Value), f + k = 32 ∧ v = .int .i64 (f : Int) ∧ wr.heap[b']? = some (.cells #[.int .u32 (m : Nat), sl] 255 (0, 0)) ∧ Bm m (fun i => q i && decide (i < f)) ∧ wr.ownsRow w1.heap.size 165 1 sl (cnt q f) (kidL q kid f) ∧ Below w1.heap.size w1 wr)
  case atStart => exact ⟨0, 0, sl, rfl, rfl, HZ5.out, ⟨by omega, fun i hi => by simp⟩, HO5.out, HB5.out⟩
  case round =>
    obtain ⟨f, m, sl, hfk, rfl, hz, hm, ho, hbw⟩ := hrel
    have HZ := Lib.hid hz
    have HM := Lib.hid hm
    have HO := Lib.hid ho
    have HBW := Lib.hid hbw
    have hw1 : IntKind.i64.wrap ((f : Int) + 1) = (f : Int) + 1 := by rw [IntKind.wrap_i64]; omega
    clear hz hm ho hbw HB5 HZ5 HO5
    by_cases hlt : f < 32
    · have h1 : decide ((f : Int) < 32) = true := by simp; omega
      have hx := fun v hv => index257 A.toArray f v hlt hv
      have hkf := HA.out f hlt
      have hlf := HK.out.2 f hlt
      have hwu : IntKind.u32.wrap (f : Int) = (f : Int) := by rw [IntKind.wrap_u32]; omega
      cases hpf : pp f with
      | false =>
        rw [hpf] at hlf
        have hlf : kid f = .nilIface := by simpa using hlf
        rw [hlf] at hkf
        have hx := hx _ hkf
        have HPF : Hid (q f = false) := by show q f = false; rw [HQ.out]; simp [hpf]
        clear hlf hkf hpf
        go_wp2_with fail
        go_roundg (gk - 1)
        case measure => omega
        case rel =>
          refine ⟨f + 1, m, sl, by omega, rfl, HZ.out, bm_congr HM.out fun i hi => ?_, ?_, HBW.out⟩
          · by_cases e : i = f
            · subst e; simp [HPF.out]
            · have : (i < f + 1) = (i < f) := by apply propext; omega
              simp only [this]
          · rw [kidL_f kid HPF.out, cnt_succ, HPF.out]
            exact HO.out
      | true =>
        rw [hpf] at hlf
        obtain ⟨kt, kq, hkl⟩ : ∃ t q : Nat, kid f = .iface t (.pointer (some ⟨q, 0, none⟩)) := by simpa using hlf
        rw [hkl] at hkf
        have hx := hx _ hkf
        have HKL := Lib.hid hkl
        clear hlf hkf hkl
        by_cases hfj : f = j
        · have HPF : Hid (q f = false) := by show q f = false; rw [HQ.out, hfj]; simp
          have hne : ((f : Int) != (j : Int)) = false := by simp [hfj]
          clear hpf hfj
          go_wp2_with fail
          go_roundg (gk - 1)
          case measure => omega
          case rel =>
            refine ⟨f + 1, m, sl, by omega, rfl, HZ.out, bm_congr HM.out fun i hi => ?_, ?_, HBW.out⟩
            · by_cases e : i = f
              · subst e; simp [HPF.out]
              · have : (i < f + 1) = (i < f) := by apply propext; omega
                simp only [this]
            · rw [kidL_f kid HPF.out, cnt_succ, HPF.out]
              exact HO.out
        · have HPF : Hid (q f = true) := by show q f = true; rw [HQ.out]; simp [hpf, hfj]
          have hne : ((f : Int) != (j : Int)) = true := by simp; omega
          have hz0 := cell_at (j := 0) HZ.out rfl
          have hzf : wr.frozen? ⟨b', 0, none⟩ = false := frozen_of_row _ _ _ _ _ HZ.out
          have hor := or_bit (f := f) HM.out.1 hlt
          clear hpf hfj
          go_upto_region 15 with (fail)
          have HX : Hid ((wr.setCell ⟨b', 0, none⟩ (.int .u32 ((m ||| 2 ^ f : Nat) : Int))).heap[b']? = some (.cells #[.int .u32 ((m ||| 2 ^ f : Nat) : Int), sl] 255 (0, 0))) := heap_setCell_same _ _ _ _ _ _ HZ.out
          have hbx : But (· = b') wr (wr.setCell ⟨b', 0, none⟩ (.int .u32 ((m ||| 2 ^ f : Nat) : Int))) := (But.refl _ wr).set _
          have HOX := Lib.hid (own_but HO.out hbx (own_off HO.out HZ.out (by decide)))
          have HBX : Hid (Below w1.heap.size w1 (wr.setCell ⟨b', 0, none⟩ (.int .u32 ((m ||| 2 ^ f : Nat) : Int)))) := HBW.out.setCell (by show _ ≤ b'; rw [HBE.out]; omega) _
          have HM2 : Hid (Bm (m ||| 2 ^ f) (fun i => q i && decide (i < f + 1))) := bm_congr (bm_or HM.out hlt) fun i hi => by
            by_cases e : i = f
            · subst e; simp [HPF.out]
            · have : (i < f + 1) = (i < f) := by apply propext; omega
              simp [this, e]
          have HCL : Hid (cnt q f ≤ 32) := Nat.le_trans (cnt_le q f) (by omega)
          clear hz0 hzf hor hbx HZ HO HBW HM hx hwu h1 hne
          generalize wr.setCell ⟨b', 0, none⟩ (.int .u32 ((m ||| 2 ^ f : Nat) : Int)) = X at HX HOX HBX ⊢
          have hz1 := cell_at (j := 1) HX.out rfl
          go_wp2_with (at_builtin; refine wpList_append_own _ rfl (.tmp 98) (.tmp 100) 253 rfl w1.heap.size 165 i165 .nilIface 1 16 Try.underlying253 HI.out.1 HI.out.2.1 HI.out.2.2.1 HI.out.2.2.2 rfl (by decide) _ _ _ rfl (HOX.out.alloc _) ⟨X.heap.size, 0, none⟩ 1 1 [.iface kt (.pointer (some ⟨kq, 0, none⟩))] rfl rfl (new_cell _ _ _) (one_oneCell rfl) (by have := HCL.out; unfold maxLen; omega) (by have := HCL.out; omega) (by have := HBX.out.size; rw [size_alloc]; omega) ?_)
          intro v2 w3 hown2 hgrow2 _
          have HB3 := Lib.hid (below_grown (HBX.out.alloc HBX.out.size (.cells #[.iface kt (.pointer (some ⟨kq, 0, none⟩))] 165)) HOX.out (Nat.le_refl _) (Nat.le_refl _) hgrow2)
          have HZ3 := Lib.hid (row_push (.iface kt (.pointer (some ⟨kq, 0, none⟩))) HOX.out HX.out (by decide) hgrow2)
          obtain ⟨g2, c2, rfl⟩ : ∃ g2 c2, v2 = .slice (some ⟨g2, 0, none⟩) (cnt q f + 1) c2 := by
            rcases hown2.2 with ⟨-, h9⟩ | ⟨g, cap, cur, h9, -⟩
            · omega
            · exact ⟨g, cap, h9⟩
          have HO3 := Lib.hid hown2
          clear hown2 hgrow2 hz1
          have hz1 := cell_at (j := 1) HZ3.out rfl
          have hzf : w3.frozen? ⟨b', 1, none⟩ = false := frozen_of_row _ _ _ _ _ HZ3.out
          go_wp2_with fail
          go_roundg (gk - 1)
          case measure => omega
          case rel =>
            refine ⟨f + 1, m ||| 2 ^ f, _, by omega, rfl, heap_setCell_same _ _ _ _ _ _ HZ3.out, HM2.out, ?_, HB3.out.setCell (by show _ ≤ b'; rw [HBE.out]; omega) _⟩
            rw [kidL_t kid HPF.out, cnt_succ, HPF.out, HKL.out]
            exact own_but HO3.out ((But.refl (· = b') w3).setCell (.inl rfl) _) (own_off HO3.out HZ3.out (by decide))
    · have h1 : decide ((f : Int) < 32) = false := by simp; omega
      obtain rfl : f = 32 := by omega
      go_wp2_with fail
      go_ret
      refine ⟨w1, b', m, sl, HB.out, HF.out, rfl, by rw [HBE.out]; omega, HZ.out, ?_, ?_, HBW.out⟩
      · exact bm_congr HM.out fun i hi => by rw [HQ.out]; simp [hi]
      · rw [← HQ.out]; exact HO.out
end Go.Proofs.Ytpkndcmgialgcaa
