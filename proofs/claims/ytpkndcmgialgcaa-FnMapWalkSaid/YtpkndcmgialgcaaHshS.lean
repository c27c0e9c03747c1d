/- The walks over a branch with 32 places: set (as a copy). -/
import Derived.Test.YtpkndcmgialgcaaColN
namespace Go.Proofs.Ytpkndcmgialgcaa
open Go.RowKit

theorem size259 : (Try.prog.info? 259).map (·.size) = some 33 := by kernel_rfl

set_option maxRecDepth 100000 in
set_option maxHeartbeats 400000 in
theorem clone_w (b : Nat) (arr : Array Value) (w : World) (hblk : w.heap[b]? = some (.cells arr 259 (0, 0))) (hs : arr.size = 33) (hone : arr.all (·.oneCell') = true) :
    Calls Try.prog 202 #[.pointer (some ⟨b, 0, none⟩)] w fun e w' => e = .returned (.pointer (some ⟨w.heap.size, 0, none⟩)) ∧ w' = w.alloc (.cells arr 259) := by
  have hst := fun (c : Array Value) (hc : c.size = 33) => run_storeCells_new (P := Try.prog) w 259 c arr (size259.trans (by rw [hs])) (by rw [hc, hs]) hone
  go_enter Try.func202, Try.ntmps202
  go_wp2_with (first | (with_reducible refine wpList_load_row rfl 259 _ rfl b rfl 259 arr (0, 0) _ hblk Try.underlying259 rfl (size259.trans (by rw [hs])) ?_))
  go_ret
  exact ⟨rfl, rfl⟩

set_option maxRecDepth 100000 in
set_option maxHeartbeats 800000 in
theorem hsh_set_k (H : Value) (b rb : Nat) (arr : Array Value) (sf hh : Nat) (key val : Int) (j : Nat) (hj : j < 32) (hs : sf < 32) (hb : bits BinOp.and IntKind.u32 ((hh : Int) / 2 ^ sf) 31 = (j : Int)) (w : World)
    (hblk : w.heap[b]? = some (.cells arr 259 (0, 0))) (hsz : arr.size = 33) (hone : arr.all (·.oneCell') = true) (hne : b ≠ rb) (p t fid : Nat) (hc : arr[1 + j]? = some (.iface t (.pointer (some ⟨p, 0, none⟩))))
    (hd : Disp t (.pointer (some ⟨p, 0, none⟩)) fid "pub-frond/pub/immutable.set") (Q : Value → World → Prop)
    (hcall : Calls Try.prog fid #[.pointer (some ⟨p, 0, none⟩), .int .i64 key, .int .i64 val, .int .u64 (sf + 5 : Nat), .int .u32 hh, H, .bool false, .pointer (some ⟨rb, 0, none⟩)] w fun e w1 => ∃ t q, e = .returned (.iface t (.pointer (some ⟨q, 0, none⟩))) ∧ Q (.iface t (.pointer (some ⟨q, 0, none⟩))) w1 ∧ But (· = rb) w w1) :
    Calls Try.prog 205 #[.pointer (some ⟨b, 0, none⟩), .int .i64 key, .int .i64 val, .int .u64 sf, .int .u32 hh, H, .bool false, .pointer (some ⟨rb, 0, none⟩)] w fun e w' =>
      ∃ w1 v1, Q v1 w1 ∧ But (· = rb) w w1 ∧ e = .returned (.iface 256 (.pointer (some ⟨w1.heap.size, 0, none⟩))) ∧ w' = w1.alloc (.cells (arr.setIfInBounds (1 + j) v1) 259) := by
  have hcj := cell_at hblk hc
  obtain ⟨h1, h2, h3⟩ := hd
  have H4 := Lib.hid hcall
  have HBLK := Lib.hid hblk
  have HNE := Lib.hid hne
  have HS := Lib.hid (And.intro hsz hone)
  have HC := Lib.hid hc
  clear hcall hblk hne hsz hone hc
  go_enter Try.func205, Try.ntmps205
  go_wp2_with fail
  refine H4.out.mono ?_
  rintro e w1 ⟨t', q, rfl, hq, hb1⟩
  have HQ := Lib.hid hq
  have HB := Lib.hid hb1
  have HB1 := Lib.hid (hb1.at HBLK.out HNE.out)
  clear hq hb1
  go_wp2_with fail
  refine (clone_w b arr w1 HB1.out HS.out.1 HS.out.2).mono ?_
  rintro e w2 ⟨rfl, rfl⟩
  have HZ : Hid ((w1.alloc (.cells arr 259)).heap[w1.heap.size]? = some (.cells arr 259 (0, 0))) := heap_alloc_last w1 _
  have hz := cell_at HZ.out HC.out
  have hf : (w1.alloc (.cells arr 259)).frozen? ⟨w1.heap.size, 1 + j, none⟩ = false := frozen_of_row _ _ _ _ _ HZ.out
  go_wp2_with fail
  go_ret
  exact ⟨w1, _, HQ.out, HB.out, rfl, rfl⟩

set_option maxRecDepth 100000 in
set_option maxHeartbeats 800000 in
theorem hsh_set_n (H : Value) (b rb : Nat) (arr : Array Value) (sf hh : Nat) (key val : Int) (j : Nat) (hj : j < 32) (hs : sf < 32) (hb : bits BinOp.and IntKind.u32 ((hh : Int) / 2 ^ sf) 31 = (j : Int)) (n : Nat) (hn : n ≤ 32) (r : Bool) (w : World)
    (hblk : w.heap[b]? = some (.cells arr 259 (0, 0))) (hsz : arr.size = 33) (hone : arr.all (·.oneCell') = true) (hf : Flag w rb r) (hc : arr[1 + j]? = some .nilIface) (h0 : arr[0]? = some (.int .u64 n)) :
    Calls Try.prog 205 #[.pointer (some ⟨b, 0, none⟩), .int .i64 key, .int .i64 val, .int .u64 sf, .int .u32 hh, H, .bool false, .pointer (some ⟨rb, 0, none⟩)] w fun e w' =>
      ∃ w1, But (· = rb) w w1 ∧ Flag w1 rb true ∧ e = .returned (.iface 256 (.pointer (some ⟨w1.heap.size + 1, 0, none⟩))) ∧
        w' = (w1.alloc (.cells #[.int .u32 hh, .int .i64 key, .int .i64 val] 186)).alloc (.cells ((arr.setIfInBounds 0 (.int .u64 ((n : Int) + 1))).setIfInBounds (1 + j) (.iface 184 (.pointer (some ⟨w1.heap.size, 0, none⟩)))) 259) := by
  have hcj := cell_at hblk hc
  have HBLK := Lib.hid hblk
  have HNE := Lib.hid (hf.other hblk (by decide))
  have HS := Lib.hid (And.intro hsz hone)
  have HC := Lib.hid hc
  have H0 := Lib.hid h0
  have HF := Lib.hid hf
  have hr' := cell_at (j := 0) hf rfl
  have hz' : w.frozen? ⟨rb, 0, none⟩ = false := frozen_of_row _ _ _ _ _ hf
  clear hblk hsz hone hc hf h0
  go_enter Try.func205, Try.ntmps205
  go_upto_region 6 with (fail)
  have HB2 : Hid (But (· = rb) w (w.setCell ⟨rb, 0, none⟩ (.bool true))) := (But.refl _ w).set _
  have HF2 : Hid (Flag (w.setCell ⟨rb, 0, none⟩ (.bool true)) rb true) := HF.out.set true
  clear hr' hz' hcj
  generalize w.setCell ⟨rb, 0, none⟩ (.bool true) = w1 at HB2 HF2 ⊢
  go_wp2_with fail
  refine (newval_w _ _ _ _).mono ?_
  rintro e w2 ⟨rfl, rfl⟩
  go_wp2_with fail
  have HB1 : Hid ((w1.alloc (.cells #[.int .u32 hh, .int .i64 key, .int .i64 val] 186)).heap[b]? = some (.cells arr 259 (0, 0))) := at_alloc (HB2.out.at HBLK.out HNE.out)
  refine (clone_w b arr _ HB1.out HS.out.1 HS.out.2).mono ?_
  rintro e w2 ⟨rfl, rfl⟩
  rw [size_alloc]
  have HZ : Hid (((w1.alloc (.cells #[.int .u32 hh, .int .i64 key, .int .i64 val] 186)).alloc (.cells arr 259)).heap[w1.heap.size + 1]? = some (.cells arr 259 (0, 0))) := by
    have h1 := heap_alloc_last (w1.alloc (.cells #[.int .u32 hh, .int .i64 key, .int .i64 val] 186)) (.cells arr 259)
    rw [size_alloc] at h1
    exact h1
  have hz0 := cell_at HZ.out H0.out
  have hf0 : ((w1.alloc (.cells #[.int .u32 hh, .int .i64 key, .int .i64 val] 186)).alloc (.cells arr 259)).frozen? ⟨w1.heap.size + 1, 0, none⟩ = false := frozen_of_row _ _ _ _ _ HZ.out
  have hz1 : (arr.setIfInBounds 0 (.int .u64 ((n : Int) + 1)))[1 + j]? = some .nilIface := by rw [Array.getElem?_setIfInBounds_ne (by omega)]; exact HC.out
  go_wp2_with fail
  go_ret
  exact ⟨w1, HB2.out, HF2.out, rfl, rfl⟩
end Go.Proofs.Ytpkndcmgialgcaa
