/- The walks over a map's leaf of one pair: set (as a copy).

set at a leaf of one pair. -/
import Derived.Test.YtpkndcmgialgcaaMrgN
import Derived.Deep.DeepCutAuto
import Derived.Deep.CutBlock
namespace Go.Proofs.Ytpkndcmgialgcaa
open Go.RowKit

set_option maxRecDepth 100000 in
set_option maxHeartbeats 800000 in
theorem val_set_t (mo mu sh : Int) (b rb : Nat) (x k v key val : Int) (sf hh : Int) (r : Bool) (HD : Hid (true = decide (k = key))) (w : World) (hblk : w.heap[b]? = some (.cells #[.int .u32 x, .int .i64 k, .int .i64 v] 186 (0, 0)))
    (hf : Flag w rb r) :
    Calls Try.prog 176 #[.pointer (some ⟨b, 0, none⟩), .int .i64 key, .int .i64 val, .int .u64 sf, .int .u32 hh, .iface 175 (av mo mu sh), .bool false, .pointer (some ⟨rb, 0, none⟩)] w fun e w' => ∃ w1, Below w.heap.size w w1 ∧ e = .returned (.iface 184 (.pointer (some ⟨w1.heap.size, 0, none⟩))) ∧ w' = w1.alloc (.cells #[.int .u32 x, .int .i64 key, .int .i64 val] 186) := by
  have hc0 := cell_at (j := 0) hblk rfl
  have hc1 := cell_at (j := 1) hblk rfl
  have hc2 := cell_at (j := 2) hblk rfl
  have hlt := Lib.hid (lt_of_block hblk)
  have hbr := Lib.hid (hf.other hblk (by decide))
  have HBLK := Lib.hid hblk
  obtain ⟨h1, h2, h3⟩ := disp_equal mo mu sh
  have HE : ∀ w, Hid (Calls Try.prog 166 #[av mo mu sh, .int .i64 k, .int .i64 key] w fun e w' => e = .returned (.bool true) ∧ Below w.heap.size w w') := fun w => by rw [HD.out]; exact Lib.hid (equal_w mo mu sh k key w)
  have HF := Lib.hid hf
  clear hblk HD hf
  go_enter Try.func176, Try.ntmps176
  go_wp2
  refine region_tail 9 (by kernel_rfl) (by kernel_rfl) ?_
  simp only [List.take_succ_cons, List.take_zero, List.drop_succ_cons, List.drop_zero]
  repeat still_step
  refine wpStill_nil ?_
  go_wp2_with fail
  refine (HE _).out.mono ?_
  rintro e w1 ⟨rfl, hb⟩
  have HB : Hid (Below w.heap.size w w1) := Below.undrew hb
  have hc0' := (HB.out.cell hlt.out).trans hc0
  have hc1' := (HB.out.cell hlt.out).trans hc1
  have hc2' := (HB.out.cell hlt.out).trans hc2
  have HF1 : Hid (Flag w1 rb r) := (HB.out.block rb (lt_of_block HF.out)).trans HF.out
  clear hb
  go_wp2_with fail
  refine (newval_w _ _ _ _).mono ?_
  rintro e w' ⟨rfl, rfl⟩
  go_wp2_with fail
  go_ret
  exact ⟨w1, HB.out, rfl, rfl⟩

set_option maxRecDepth 100000 in
set_option maxHeartbeats 800000 in
theorem val_set_c (mo mu sh : Int) (b rb : Nat) (x k v key val : Int) (sf hh : Int) (r : Bool) (HD : Hid (false = decide (k = key))) (w : World) (hblk : w.heap[b]? = some (.cells #[.int .u32 x, .int .i64 k, .int .i64 v] 186 (0, 0)))
    (hf : Flag w rb r) (hx : (x != hh) = false) :
    Calls Try.prog 176 #[.pointer (some ⟨b, 0, none⟩), .int .i64 key, .int .i64 val, .int .u64 sf, .int .u32 hh, .iface 175 (av mo mu sh), .bool false, .pointer (some ⟨rb, 0, none⟩)] w fun e w' => ∃ w2, But (· = rb) w w2 ∧ Flag w2 rb true ∧ e = .returned (.iface 187 (.pointer (some ⟨w2.heap.size + 1, 0, none⟩))) ∧
      w' = ((w2.alloc (.cells #[.int .i64 k, .int .i64 v, .int .i64 key, .int .i64 val] 180)).alloc (.cells #[.int .u32 hh, .slice (some ⟨w2.heap.size, 0, none⟩) 2 2] 189)).drew := by
  have hc0 := cell_at (j := 0) hblk rfl
  have hc1 := cell_at (j := 1) hblk rfl
  have hc2 := cell_at (j := 2) hblk rfl
  have hlt := Lib.hid (lt_of_block hblk)
  have hbr := Lib.hid (hf.other hblk (by decide))
  have HBLK := Lib.hid hblk
  obtain ⟨h1, h2, h3⟩ := disp_equal mo mu sh
  have HE : ∀ w, Hid (Calls Try.prog 166 #[av mo mu sh, .int .i64 k, .int .i64 key] w fun e w' => e = .returned (.bool false) ∧ Below w.heap.size w w') := fun w => by rw [HD.out]; exact Lib.hid (equal_w mo mu sh k key w)
  have HF := Lib.hid hf
  clear hblk HD hf
  go_enter Try.func176, Try.ntmps176
  go_wp2
  refine region_tail 9 (by kernel_rfl) (by kernel_rfl) ?_
  simp only [List.take_succ_cons, List.take_zero, List.drop_succ_cons, List.drop_zero]
  repeat still_step
  refine wpStill_nil ?_
  go_wp2_with fail
  refine (HE _).out.mono ?_
  rintro e w1 ⟨rfl, hb⟩
  have HB : Hid (Below w.heap.size w w1) := Below.undrew hb
  have hc0' := (HB.out.cell hlt.out).trans hc0
  have hc1' := (HB.out.cell hlt.out).trans hc1
  have hc2' := (HB.out.cell hlt.out).trans hc2
  have HF1 : Hid (Flag w1 rb r) := (HB.out.block rb (lt_of_block HF.out)).trans HF.out
  clear hb
  have hr' := cell_at (j := 0) HF1.out rfl
  have hz' : w1.frozen? ⟨rb, 0, none⟩ = false := frozen_of_row _ _ _ _ _ HF1.out
  go_upto_region 7 with (fail)
  have HB2 : Hid (But (· = rb) w (w1.setCell ⟨rb, 0, none⟩ (.bool true))) := (But.of_below HB.out).set _
  have HF2 : Hid (Flag (w1.setCell ⟨rb, 0, none⟩ (.bool true)) rb true) := HF1.out.set true
  have HK2 := Lib.hid (HB2.out.at HBLK.out hbr.out)
  clear hc0' hc1' hc2' hr' hz' HF1 HB
  generalize w1.setCell ⟨rb, 0, none⟩ (.bool true) = w2 at HB2 HF2 HK2 ⊢
  have hc0' := cell_at (j := 0) HK2.out rfl
  have hc1' := cell_at (j := 1) HK2.out rfl
  have hc2' := cell_at (j := 2) HK2.out rfl
  go_wp2
  go_region
  go_wp2_with fail
  go_ret
  exact ⟨w2, HB2.out, HF2.out, rfl, rfl⟩

set_option maxRecDepth 100000 in
set_option maxHeartbeats 800000 in
theorem val_set_m (mo mu sh : Int) (b rb : Nat) (x k v key val : Int) (sf hh : Int) (r : Bool) (HD : Hid (false = decide (k = key))) (w : World) (hblk : w.heap[b]? = some (.cells #[.int .u32 x, .int .i64 k, .int .i64 v] 186 (0, 0)))
    (hf : Flag w rb r) (hx : (x != hh) = true) (Q : World → Ending → World → Prop)
    (hm : ∀ w2, But (· = rb) w w2 → Flag w2 rb true → Calls Try.prog 177 #[.iface 184 (.pointer (some ⟨b, 0, none⟩)), .int .u64 sf, .int .u32 hh, .int .i64 key, .int .i64 val] w2 fun e w3 => ∃ t q, e = .returned (.iface t (.pointer (some ⟨q, 0, none⟩))) ∧ Q w2 e w3) :
    Calls Try.prog 176 #[.pointer (some ⟨b, 0, none⟩), .int .i64 key, .int .i64 val, .int .u64 sf, .int .u32 hh, .iface 175 (av mo mu sh), .bool false, .pointer (some ⟨rb, 0, none⟩)] w fun e w' => ∃ w2, But (· = rb) w w2 ∧ Flag w2 rb true ∧ Q w2 e w' := by
  have hc0 := cell_at (j := 0) hblk rfl
  have hc1 := cell_at (j := 1) hblk rfl
  have hc2 := cell_at (j := 2) hblk rfl
  have hlt := Lib.hid (lt_of_block hblk)
  have hbr := Lib.hid (hf.other hblk (by decide))
  have HBLK := Lib.hid hblk
  obtain ⟨h1, h2, h3⟩ := disp_equal mo mu sh
  have HE : ∀ w, Hid (Calls Try.prog 166 #[av mo mu sh, .int .i64 k, .int .i64 key] w fun e w' => e = .returned (.bool false) ∧ Below w.heap.size w w') := fun w => by rw [HD.out]; exact Lib.hid (equal_w mo mu sh k key w)
  have HF := Lib.hid hf
  clear hblk HD hf
  go_enter Try.func176, Try.ntmps176
  go_wp2
  refine region_tail 9 (by kernel_rfl) (by kernel_rfl) ?_
  simp only [List.take_succ_cons, List.take_zero, List.drop_succ_cons, List.drop_zero]
  repeat still_step
  refine wpStill_nil ?_
  go_wp2_with fail
  refine (HE _).out.mono ?_
  rintro e w1 ⟨rfl, hb⟩
  have HB : Hid (Below w.heap.size w w1) := Below.undrew hb
  have hc0' := (HB.out.cell hlt.out).trans hc0
  have hc1' := (HB.out.cell hlt.out).trans hc1
  have hc2' := (HB.out.cell hlt.out).trans hc2
  have HF1 : Hid (Flag w1 rb r) := (HB.out.block rb (lt_of_block HF.out)).trans HF.out
  clear hb
  have HM := Lib.hid hm
  clear hm
  have hr' := cell_at (j := 0) HF1.out rfl
  have hz' : w1.frozen? ⟨rb, 0, none⟩ = false := frozen_of_row _ _ _ _ _ HF1.out
  go_upto_region 7 with (fail)
  have HB2 : Hid (But (· = rb) w (w1.setCell ⟨rb, 0, none⟩ (.bool true))) := (But.of_below HB.out).set _
  have HF2 : Hid (Flag (w1.setCell ⟨rb, 0, none⟩ (.bool true)) rb true) := HF1.out.set true
  have HK2 := Lib.hid (HB2.out.at HBLK.out hbr.out)
  clear hc0' hc1' hc2' hr' hz' HF1 HB
  generalize w1.setCell ⟨rb, 0, none⟩ (.bool true) = w2 at HB2 HF2 HK2 ⊢
  have hc0' := cell_at (j := 0) HK2.out rfl
  have hc1' := cell_at (j := 1) HK2.out rfl
  have hc2' := cell_at (j := 2) HK2.out rfl
  go_wp2_with fail
  refine (HM.out w2 HB2.out HF2.out).mono ?_
  rintro e w3 ⟨t, q, rfl, hq⟩
  have HQ := Lib.hid hq
  clear hq
  go_wp2_with fail
  go_ret
  exact ⟨w2, HB2.out, HF2.out, HQ.out⟩

end Go.Proofs.Ytpkndcmgialgcaa

namespace Go.Proofs.Ytpkndcmgialgcaa
open Go.RowKit

/-- what a set at a node leaves (as a copy); rb: the flag's block -/
def SetPost (h : Int → Nat) (S : Nat → Prop) (w : World) (rb : Nat) (old : Bool) (r t : Nat) (es : List (Int × Int)) (key val : Int) (e : Ending) (w' : World) : Prop :=
  ∃ v', e = .returned v' ∧ Node h (New S w) w' r t v' (setR h r t es key val) ∧ But (· = rb) w w' ∧ Flag w' rb (old || !has es key)

theorem Flag.below {w w' : World} {rb : Nat} {r : Bool} (hf : Flag w rb r) (hb : Below w.heap.size w w') : Flag w' rb r := (hb.block rb (lt_of_block hf)).trans hf
theorem New.of {S : Nat → Prop} {w w2 : World} (hs : w.heap.size ≤ w2.heap.size) {b : Nat} (h : New S w2 b) : New S w b := h.imp id fun h => Nat.le_trans hs h
theorem setR_has {h : Int → Nat} {r t : Nat} {es : List (Int × Int)} {k v : Int} (hh : has es k = true) : setR h r t es k v = upd es k v := by unfold setR; rw [if_pos hh]
theorem setR_new {h : Int → Nat} {r t : Nat} {es : List (Int × Int)} {k v : Int} (hh : has es k = false) (hs : ∀ e ∈ es, h e.1 = h k) : setR h r t es k v = es ++ [(k, v)] := by
  unfold setR
  rw [if_neg (by rw [hh]; simp), insR_same h k v r t es hs]

theorem val_set_any {h : Int → Nat} (hlt : ∀ k, h k < 4294967296) {S : Nat → Prop} (mo mu sh key val : Int) (r t : Nat) (hrt : r + t = 7) {w : World} {b rb : Nat} {k y : Int} {old : Bool}
    (hblk : w.heap[b]? = some (.cells #[.int .u32 (h k : Nat), .int .i64 k, .int .i64 y] 186 (0, 0))) (hS : S b) (hf : Flag w rb old) (ha : h k % 32 ^ t = h key % 32 ^ t) :
    Calls Try.prog 176 #[.pointer (some ⟨b, 0, none⟩), .int .i64 key, .int .i64 val, .int .u64 (5 * t : Nat), .int .u32 (h key : Nat), .iface 175 (av mo mu sh), .bool false, .pointer (some ⟨rb, 0, none⟩)] w
      (SetPost h S w rb old r t [(k, y)] key val) := by
  by_cases hk : k = key
  · subst hk
    refine (val_set_t mo mu sh b rb (h k) k y k val _ _ old (Lib.hid (decide_eq_true rfl).symm) w hblk hf).mono ?_
    rintro e w' ⟨w1, hb, rfl, rfl⟩
    have hh : has [(k, y)] k = true := by simp [has]
    have hb1 : Below w.heap.size w (w1.alloc (.cells #[.int .u32 (h k : Nat), .int .i64 k, .int .i64 val] 186)) := hb.alloc hb.size _
    refine ⟨_, rfl, ?_, But.of_below hb1, ?_⟩
    · rw [setR_has hh]
      refine Leaf.node (.inl ⟨w1.heap.size, k, val, rfl, heap_alloc_last w1 _, ?_, .inr hb.size⟩)
      simp [upd]
    · rw [hh, Bool.not_true, Bool.or_false]
      exact hf.below hb1
  · have hd : Hid (false = decide (k = key)) := Lib.hid (decide_eq_false hk).symm
    have hh : has [(k, y)] key = false := by simp [has, hk]
    by_cases hx : h k = h key
    · refine (val_set_c mo mu sh b rb (h k : Nat) k y key val _ (h key : Nat) old hd w hblk hf (by rw [hx]; simp)).mono ?_
      rintro e w' ⟨w2, hb, hf2, rfl, rfl⟩
      have hb2 : Below w2.heap.size w2 ((w2.alloc (.cells #[.int .i64 k, .int .i64 y, .int .i64 key, .int .i64 val] 180)).alloc (.cells #[.int .u32 (h key : Nat), .slice (some ⟨w2.heap.size, 0, none⟩) 2 2] 189)).drew :=
        (((Below.refl _ _).alloc (Nat.le_refl _) _).alloc (by rw [size_alloc]; omega) _).drew
      refine ⟨_, rfl, ?_, hb.trans (But.of_below hb2), ?_⟩
      · rw [setR_new hh (by simpa using hx)]
        have h1 : ((w2.alloc (.cells #[.int .i64 k, .int .i64 y, .int .i64 key, .int .i64 val] 180)).alloc (.cells #[.int .u32 (h key : Nat), .slice (some ⟨w2.heap.size, 0, none⟩) 2 2] 189)).heap[w2.heap.size + 1]? = some (.cells #[.int .u32 (h key : Nat), .slice (some ⟨w2.heap.size, 0, none⟩) 2 2] 189 (0, 0)) := by
          have h1 := heap_alloc_last (w2.alloc (.cells #[.int .i64 k, .int .i64 y, .int .i64 key, .int .i64 val] 180)) (.cells #[.int .u32 (h key : Nat), .slice (some ⟨w2.heap.size, 0, none⟩) 2 2] 189)
          rw [size_alloc] at h1
          exact h1
        refine Leaf.node (.inr ⟨w2.heap.size + 1, h key, _, rfl, h1, ⟨w2.heap.size, 2, _, rfl, at_alloc (heap_alloc_last w2 _), rfl, Nat.le_refl _, fun i e he => ?_, .inr hb.size⟩, Nat.le_refl _, fun e he => ?_, .inr (Nat.le_trans hb.size (by omega))⟩)
        · rcases i with _ | _ | i
          · simp at he; subst he; exact ⟨rfl, rfl⟩
          · simp at he; subst he; exact ⟨rfl, rfl⟩
          · simp at he
        · simp at he
          rcases he with rfl | rfl
          · exact hx
          · rfl
      · rw [hh, Bool.not_false, Bool.or_true]
        exact hf2.below hb2
    · cases r with
      | zero =>
        exfalso
        have h2 : t = 7 := by omega
        rw [h2] at ha
        have h3 := hlt key
        have h4 := hlt k
        omega
      | succ r =>
        have n : Leaf h S w (.iface 184 (.pointer (some ⟨b, 0, none⟩))) [(k, y)] := .inl ⟨b, k, y, rfl, hblk, rfl, hS⟩
        refine (val_set_m mo mu sh b rb (h k : Nat) k y key val (5 * t : Nat) (h key : Nat) old hd w hblk hf (by simpa using fun e => hx (by omega))
          (fun w2 e w3 => ∃ v', e = .returned v' ∧ Node h (New S w2) w3 (r + 1) t v' (setR h (r + 1) t [(k, y)] key val) ∧ Below w2.heap.size w2 w3) (fun w2 hb hf2 => ?_)).mono ?_
        · refine (merge_any hlt key val r t hrt (Leaf.keeps (Keeps.of_stay (hb.stay hf)) n) (x := h k) (by simp) hx (hlt k) ha).mono ?_
          rintro e w3 ⟨v', rfl, n3, hb3⟩
          obtain ⟨ty, q, rfl⟩ := n3.ptr
          exact ⟨ty, q, rfl, _, rfl, n3, hb3⟩
        · rintro e w' ⟨w2, hb, hf2, v', rfl, n3, hb3⟩
          refine ⟨v', rfl, n3.inS fun b _ hb' => New.of hb.size hb', hb.trans (But.of_below hb3), ?_⟩
          rw [hh, Bool.not_false, Bool.or_true]
          exact hf2.below hb3
end Go.Proofs.Ytpkndcmgialgcaa
