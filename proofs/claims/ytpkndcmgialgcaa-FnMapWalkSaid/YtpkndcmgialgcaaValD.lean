/- The walks over a leaf of one pair: delete. -/
import Derived.Test.YtpkndcmgialgcaaSetN
namespace Go.Proofs.Ytpkndcmgialgcaa
open Go.RowKit

set_option maxRecDepth 100000 in
set_option maxHeartbeats 400000 in
theorem val_del (mo mu sh : Int) (b rb : Nat) (x k v key : Int) (sf hh : Int) (mt : Bool) (d : Bool) (HD : Hid (d = decide (k = key))) (w : World) (hblk : w.heap[b]? = some (.cells #[.int .u32 x, .int .i64 k, .int .i64 v] 186 (0, 0))) (hf : Flag w rb false) :
    Calls Try.prog 173 #[.pointer (some ⟨b, 0, none⟩), .int .i64 key, .int .u64 sf, .int .u32 hh, .iface 175 (av mo mu sh), .bool mt, .pointer (some ⟨rb, 0, none⟩)] w fun e w' => e = .returned (bif d then .nilIface else .iface 184 (.pointer (some ⟨b, 0, none⟩))) ∧ But (· = rb) w w' ∧ Flag w' rb d := by
  have hc1 := cell_at (j := 1) hblk rfl
  have HF := Lib.hid hf
  obtain ⟨h1, h2, h3⟩ := disp_equal mo mu sh
  have HE : ∀ w, Hid (Calls Try.prog 166 #[av mo mu sh, .int .i64 k, .int .i64 key] w fun e w' => e = .returned (.bool d) ∧ Below w.heap.size w w') := fun w => by rw [HD.out]; exact Lib.hid (equal_w mo mu sh k key w)
  clear hblk HD hf
  go_enter Try.func173, Try.ntmps173
  go_wp2
  refine region_tail 9 (by kernel_rfl) (by kernel_rfl) ?_
  simp only [List.take_succ_cons, List.take_zero, List.drop_succ_cons, List.drop_zero]
  repeat still_step
  refine wpStill_nil ?_
  go_wp2_with fail
  refine (HE _).out.mono ?_
  rintro e w' ⟨rfl, hb⟩
  have HB := Lib.hid (Below.undrew hb)
  have HF2 := Lib.hid (HF.out.below HB.out)
  have hr' := cell_at (j := 0) HF2.out rfl
  have hz' : w'.frozen? ⟨rb, 0, none⟩ = false := frozen_of_row _ _ _ _ _ HF2.out
  clear hb
  cases d
  · go_wp2
    go_ret
    exact ⟨rfl, But.of_below HB.out, HF2.out⟩
  · go_wp2
    go_ret
    exact ⟨rfl, (But.of_below HB.out).set _, HF2.out.set true⟩
end Go.Proofs.Ytpkndcmgialgcaa
