/- The walks over a branch with 32 places: delete. -/
import Derived.Test.YtpkndcmgialgcaaBmpE
namespace Go.Proofs.Ytpkndcmgialgcaa
open Go.RowKit

set_option maxRecDepth 100000 in
set_option maxHeartbeats 400000 in
theorem hsh_del_n (H : Value) (b rb : Nat) (sf hh : Nat) (key : Int) (mt : Bool) (j : Nat) (hj : j < 32) (hs : sf < 32) (hb : bits BinOp.and IntKind.u32 ((hh : Int) / 2 ^ sf) 31 = (j : Int)) (w : World) (hc : w.cell? ⟨b, 1 + j, none⟩ = some .nilIface) :
    Calls Try.prog 203 #[.pointer (some ⟨b, 0, none⟩), .int .i64 key, .int .u64 sf, .int .u32 hh, H, .bool mt, .pointer (some ⟨rb, 0, none⟩)] w fun e w' => e = .returned (.iface 256 (.pointer (some ⟨b, 0, none⟩))) ∧ w = w' := by
  go_enter Try.func203, Try.ntmps203
  go_wp2
  go_ret
  exact ⟨rfl, rfl⟩

set_option maxRecDepth 100000 in
set_option maxHeartbeats 800000 in
theorem hsh_del_s (H : Value) (b rb : Nat) (sf hh : Nat) (key : Int) (mt : Bool) (j : Nat) (hj : j < 32) (hs : sf < 32) (hb : bits BinOp.and IntKind.u32 ((hh : Int) / 2 ^ sf) 31 = (j : Int)) (w : World) (p t fid : Nat) (hc : w.cell? ⟨b, 1 + j, none⟩ = some (.iface t (.pointer (some ⟨p, 0, none⟩))))
    (hd : Disp t (.pointer (some ⟨p, 0, none⟩)) fid "pub-frond/pub/immutable.delete")
    (hcall : Calls Try.prog fid #[.pointer (some ⟨p, 0, none⟩), .int .i64 key, .int .u64 (sf + 5 : Nat), .int .u32 hh, H, .bool mt, .pointer (some ⟨rb, 0, none⟩)] w fun e w1 => e = .returned (.iface t (.pointer (some ⟨p, 0, none⟩))) ∧ But (· = rb) w w1 ∧ Flag w1 rb false) :
    Calls Try.prog 203 #[.pointer (some ⟨b, 0, none⟩), .int .i64 key, .int .u64 sf, .int .u32 hh, H, .bool mt, .pointer (some ⟨rb, 0, none⟩)] w fun e w' => e = .returned (.iface 256 (.pointer (some ⟨b, 0, none⟩))) ∧ But (· = rb) w w' ∧ Flag w' rb false := by
  obtain ⟨h1, h2, h3⟩ := hd
  have H4 := Lib.hid hcall
  clear hcall
  go_enter Try.func203, Try.ntmps203
  go_wp2_with fail
  refine H4.out.mono ?_
  rintro e w1 ⟨rfl, hb1, hf1⟩
  have HB := Lib.hid hb1
  have HF := Lib.hid hf1
  have hr' := cell_at (j := 0) hf1 rfl
  clear hb1 hf1 hc
  go_wp2_with fail
  go_ret
  exact ⟨rfl, HB.out, HF.out⟩

set_option maxRecDepth 100000 in
set_option maxHeartbeats 800000 in
theorem hsh_del_k (H : Value) (b rb : Nat) (arr : Array Value) (sf hh : Nat) (key : Int) (j : Nat) (hj : j < 32) (hs : sf < 32) (hb : bits BinOp.and IntKind.u32 ((hh : Int) / 2 ^ sf) 31 = (j : Int)) (w : World)
    (hblk : w.heap[b]? = some (.cells arr 259 (0, 0))) (hsz : arr.size = 33) (hone : arr.all (·.oneCell') = true) (hne : b ≠ rb) (p t fid : Nat) (hc : arr[1 + j]? = some (.iface t (.pointer (some ⟨p, 0, none⟩))))
    (hd : Disp t (.pointer (some ⟨p, 0, none⟩)) fid "pub-frond/pub/immutable.delete") (Q : Value → World → Prop)
    (hcall : Calls Try.prog fid #[.pointer (some ⟨p, 0, none⟩), .int .i64 key, .int .u64 (sf + 5 : Nat), .int .u32 hh, H, .bool false, .pointer (some ⟨rb, 0, none⟩)] w fun e w1 => ∃ t q, e = .returned (.iface t (.pointer (some ⟨q, 0, none⟩))) ∧ Q (.iface t (.pointer (some ⟨q, 0, none⟩))) w1 ∧ But (· = rb) w w1 ∧ Flag w1 rb true) :
    Calls Try.prog 203 #[.pointer (some ⟨b, 0, none⟩), .int .i64 key, .int .u64 sf, .int .u32 hh, H, .bool false, .pointer (some ⟨rb, 0, none⟩)] w fun e w' =>
      ∃ w1 v1, Q v1 w1 ∧ But (· = rb) w w1 ∧ Flag w1 rb true ∧ e = .returned (.iface 256 (.pointer (some ⟨w1.heap.size, 0, none⟩))) ∧ w' = w1.alloc (.cells (arr.setIfInBounds (1 + j) v1) 259) := by
  have hcj := cell_at hblk hc
  obtain ⟨h1, h2, h3⟩ := hd
  have H4 := Lib.hid hcall
  have HBLK := Lib.hid hblk
  have HNE := Lib.hid hne
  have HS := Lib.hid (And.intro hsz hone)
  have HC := Lib.hid hc
  clear hcall hblk hne hsz hone hc
  go_enter Try.func203, Try.ntmps203
  go_wp2_with fail
  refine H4.out.mono ?_
  rintro e w1 ⟨t', q, rfl, hq, hb1, hf1⟩
  have HQ := Lib.hid hq
  have HB := Lib.hid hb1
  have HF := Lib.hid hf1
  have HB1 := Lib.hid (hb1.at HBLK.out HNE.out)
  have hr' := cell_at (j := 0) hf1 rfl
  clear hq hb1 hf1
  go_wp2_with fail
  refine (clone_w b arr w1 HB1.out HS.out.1 HS.out.2).mono ?_
  rintro e w2 ⟨rfl, rfl⟩
  have HZ : Hid ((w1.alloc (.cells arr 259)).heap[w1.heap.size]? = some (.cells arr 259 (0, 0))) := heap_alloc_last w1 _
  have hz := cell_at HZ.out HC.out
  have hf : (w1.alloc (.cells arr 259)).frozen? ⟨w1.heap.size, 1 + j, none⟩ = false := frozen_of_row _ _ _ _ _ HZ.out
  go_wp2_with fail
  go_ret
  exact ⟨w1, _, HQ.out, HB.out, HF.out, rfl, rfl⟩

set_option maxRecDepth 100000 in
set_option maxHeartbeats 800000 in
theorem hsh_del_x (H : Value) (b rb : Nat) (arr : Array Value) (sf hh : Nat) (key : Int) (j : Nat) (hj : j < 32) (hs : sf < 32) (hb : bits BinOp.and IntKind.u32 ((hh : Int) / 2 ^ sf) 31 = (j : Int)) (w : World)
    (hblk : w.heap[b]? = some (.cells arr 259 (0, 0))) (hsz : arr.size = 33) (hone : arr.all (·.oneCell') = true) (hne : b ≠ rb) (p t fid : Nat) (hc : arr[1 + j]? = some (.iface t (.pointer (some ⟨p, 0, none⟩)))) (n : Nat) (h0 : arr[0]? = some (.int .u64 n)) (hn : 16 < n) (hn32 : n ≤ 32)
    (hd : Disp t (.pointer (some ⟨p, 0, none⟩)) fid "pub-frond/pub/immutable.delete")
    (hcall : Calls Try.prog fid #[.pointer (some ⟨p, 0, none⟩), .int .i64 key, .int .u64 (sf + 5 : Nat), .int .u32 hh, H, .bool false, .pointer (some ⟨rb, 0, none⟩)] w fun e w1 => e = .returned .nilIface ∧ But (· = rb) w w1 ∧ Flag w1 rb true) :
    Calls Try.prog 203 #[.pointer (some ⟨b, 0, none⟩), .int .i64 key, .int .u64 sf, .int .u32 hh, H, .bool false, .pointer (some ⟨rb, 0, none⟩)] w fun e w' =>
      ∃ w1, But (· = rb) w w1 ∧ Flag w1 rb true ∧ e = .returned (.iface 256 (.pointer (some ⟨w1.heap.size, 0, none⟩))) ∧ w' = w1.alloc (.cells ((arr.setIfInBounds (1 + j) .nilIface).setIfInBounds 0 (.int .u64 ((n : Int) - 1))) 259) := by
  have hcj := cell_at hblk hc
  obtain ⟨h1, h2, h3⟩ := hd
  have H4 := Lib.hid hcall
  have HBLK := Lib.hid hblk
  have HNE := Lib.hid hne
  have HS := Lib.hid (And.intro hsz hone)
  have HC := Lib.hid hc
  have H0 := Lib.hid h0
  have HN := Lib.hid (And.intro hn hn32)
  clear hcall hblk hne hsz hone hc h0 hn hn32
  go_enter Try.func203, Try.ntmps203
  go_wp2_with fail
  refine H4.out.mono ?_
  rintro e w1 ⟨rfl, hb1, hf1⟩
  have HB := Lib.hid hb1
  have HF := Lib.hid hf1
  have HB1 := Lib.hid (hb1.at HBLK.out HNE.out)
  have hr' := cell_at (j := 0) hf1 rfl
  have hc0 := cell_at (hb1.at HBLK.out HNE.out) H0.out
  have hle : decide ((n : Int) ≤ 16) = false := by simp; have := HN.out; omega
  have hle2 : ¬ n ≤ 16 := by have := HN.out; omega
  clear hb1 hf1
  go_wp2_with fail
  refine (clone_w b arr w1 HB1.out HS.out.1 HS.out.2).mono ?_
  rintro e w2 ⟨rfl, rfl⟩
  have HZ : Hid ((w1.alloc (.cells arr 259)).heap[w1.heap.size]? = some (.cells arr 259 (0, 0))) := heap_alloc_last w1 _
  have hz := cell_at HZ.out HC.out
  have hf : (w1.alloc (.cells arr 259)).frozen? ⟨w1.heap.size, 1 + j, none⟩ = false := frozen_of_row _ _ _ _ _ HZ.out
  have hw : IntKind.u64.wrap ((n : Int) - 1) = (n : Int) - 1 := by rw [IntKind.wrap_u64]; have := HN.out; omega
  go_upto_region 22 with (fail)
  have HZ2 : Hid ((w1.alloc (.cells (arr.setIfInBounds (1 + j) .nilIface) 259)).heap[w1.heap.size]? = some (.cells (arr.setIfInBounds (1 + j) .nilIface) 259 (0, 0))) := heap_alloc_last _ _
  have hz0 := cell_at HZ2.out ((Array.getElem?_setIfInBounds_ne (by omega)).trans H0.out)
  have hf0 : (w1.alloc (.cells (arr.setIfInBounds (1 + j) .nilIface) 259)).frozen? ⟨w1.heap.size, 0, none⟩ = false := frozen_of_row _ _ _ _ _ HZ2.out
  clear HZ2 hz hf
  go_wp2_with fail
  go_ret
  exact ⟨w1, HB.out, HF.out, rfl, rfl⟩
end Go.Proofs.Ytpkndcmgialgcaa
