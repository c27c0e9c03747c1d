/- The walks over a leaf that meets a key of another hash. -/
import Derived.Test.YtpkndcmgialgcaaGetN
namespace Go.Proofs.Ytpkndcmgialgcaa
open Go.RowKit

set_option maxRecDepth 100000 in
set_option maxHeartbeats 400000 in
theorem newval_w (x k v : Int) (w : World) :
    Calls Try.prog 172 #[.int .u32 x, .int .i64 k, .int .i64 v] w fun e w' => e = .returned (.pointer (some ⟨w.heap.size, 0, none⟩)) ∧ w' = w.alloc (.cells #[.int .u32 x, .int .i64 k, .int .i64 v] 186) := by
  go_enter Try.func172, Try.ntmps172
  go_wp2
  go_ret
  exact ⟨rfl, rfl⟩

theorem disp_khv184 (p : Nat) : Disp 184 (.pointer (some ⟨p, 0, none⟩)) 175 "pub-frond/pub/immutable.keyHashValue" := ⟨fun w => by kernel_rfl, fun w => by kernel_rfl, fun a w => by kernel_rfl⟩
theorem disp_khv187 (p : Nat) : Disp 187 (.pointer (some ⟨p, 0, none⟩)) 180 "pub-frond/pub/immutable.keyHashValue" := ⟨fun w => by kernel_rfl, fun w => by kernel_rfl, fun a w => by kernel_rfl⟩

set_option maxRecDepth 100000 in
set_option maxHeartbeats 400000 in
theorem khv_val (b : Nat) (x : Int) (w : World) (hc : w.cell? ⟨b, 0, none⟩ = some (.int .u32 x)) :
    Calls Try.prog 175 #[.pointer (some ⟨b, 0, none⟩)] w fun e w' => e = .returned (.int .u32 x) ∧ w = w' := by
  go_enter Try.func175, Try.ntmps175
  go_wp2
  go_ret
  exact ⟨rfl, rfl⟩
set_option maxRecDepth 100000 in
set_option maxHeartbeats 400000 in
theorem khv_col (b : Nat) (x : Int) (w : World) (hc : w.cell? ⟨b, 0, none⟩ = some (.int .u32 x)) :
    Calls Try.prog 180 #[.pointer (some ⟨b, 0, none⟩)] w fun e w' => e = .returned (.int .u32 x) ∧ w = w' := by
  go_enter Try.func180, Try.ntmps180
  go_wp2
  go_ret
  exact ⟨rfl, rfl⟩

/-- a new branch of two -/
def mrgW (w : World) (m hh key val : Int) (kids : Array Value) : World :=
  ((w.alloc (.cells #[.int .u32 m, .slice (some ⟨w.heap.size + 1 + 1, 0, none⟩) 2 2] 255)).alloc (.cells #[.int .u32 hh, .int .i64 key, .int .i64 val] 186)).alloc (.cells kids 165)

set_option maxRecDepth 100000 in
set_option maxHeartbeats 800000 in
theorem merge_ne (ty p fid : Nat) (x hh sf : Nat) (key val : Int) (i j : Nat) (hi : i < 32) (hj : j < 32) (hs : sf < 32) (hb1 : bits BinOp.and IntKind.u32 ((x : Int) / 2 ^ sf) 31 = (i : Int)) (hb2 : bits BinOp.and IntKind.u32 ((hh : Int) / 2 ^ sf) 31 = (j : Int))
    (hne : ((i : Int) == (j : Int)) = false) (m : Nat) (hm : bits BinOp.or IntKind.u32 (2 ^ i % 4294967296) (2 ^ j % 4294967296) = (m : Int)) (w : World)
    (hd : Disp ty (.pointer (some ⟨p, 0, none⟩)) fid "pub-frond/pub/immutable.keyHashValue") (hc : Calls Try.prog fid #[.pointer (some ⟨p, 0, none⟩)] w fun e w' => e = .returned (.int .u32 (x : Int)) ∧ w = w') :
    Calls Try.prog 177 #[.iface ty (.pointer (some ⟨p, 0, none⟩)), .int .u64 sf, .int .u32 hh, .int .i64 key, .int .i64 val] w fun e w' =>
      e = .returned (.iface 252 (.pointer (some ⟨w.heap.size, 0, none⟩))) ∧ w' = mrgW w m hh key val (if i < j then #[.iface ty (.pointer (some ⟨p, 0, none⟩)), .iface 184 (.pointer (some ⟨w.heap.size + 1, 0, none⟩))] else #[.iface 184 (.pointer (some ⟨w.heap.size + 1, 0, none⟩)), .iface ty (.pointer (some ⟨p, 0, none⟩))]) := by
  obtain ⟨h1, h2, h3⟩ := hd
  have HC := Lib.hid hc; clear hc
  go_enter Try.func177, Try.ntmps177
  go_wp2_with fail
  refine HC.out.mono ?_
  rintro e w' ⟨rfl, rfl⟩
  go_wp2_with fail
  refine (newval_w _ _ _ _).mono ?_
  rintro e w' ⟨rfl, rfl⟩
  go_wp2_with fail
  · go_ret
    exact ⟨rfl, rfl⟩
  · go_ret
    exact ⟨rfl, rfl⟩

/-- a new branch of one: what the call behind left in w1 -/
def mrg1 (w w1 : World) (v : Value) : World := (w1.alloc (.cells #[v] 165)).setCell ⟨w.heap.size, 1, none⟩ (.slice (some ⟨w1.heap.size, 0, none⟩) 1 1)

set_option maxRecDepth 100000 in
set_option maxHeartbeats 800000 in
theorem merge_eq (ty p fid : Nat) (x hh sf : Nat) (key val : Int) (j : Nat) (hj : j < 32) (hs : sf < 32) (hb1 : bits BinOp.and IntKind.u32 ((x : Int) / 2 ^ sf) 31 = (j : Int)) (hb2 : bits BinOp.and IntKind.u32 ((hh : Int) / 2 ^ sf) 31 = (j : Int))
    (m : Nat) (hm : bits BinOp.or IntKind.u32 (2 ^ j % 4294967296) (2 ^ j % 4294967296) = (m : Int)) (w : World)
    (hd : Disp ty (.pointer (some ⟨p, 0, none⟩)) fid "pub-frond/pub/immutable.keyHashValue") (hc : Calls Try.prog fid #[.pointer (some ⟨p, 0, none⟩)] w fun e w' => e = .returned (.int .u32 (x : Int)) ∧ w = w')
    (Q : Value → World → Prop)
    (hcall : ∀ w1, Below w.heap.size w w1 → w.heap.size < w1.heap.size → Calls Try.prog 177 #[.iface ty (.pointer (some ⟨p, 0, none⟩)), .int .u64 (sf + 5 : Nat), .int .u32 hh, .int .i64 key, .int .i64 val] w1 fun e w2 => (∃ t q, e = .returned (.iface t (.pointer (some ⟨q, 0, none⟩))) ∧ Q (.iface t (.pointer (some ⟨q, 0, none⟩))) w2) ∧ Below w1.heap.size w1 w2) :
    Calls Try.prog 177 #[.iface ty (.pointer (some ⟨p, 0, none⟩)), .int .u64 sf, .int .u32 hh, .int .i64 key, .int .i64 val] w fun e w' =>
      e = .returned (.iface 252 (.pointer (some ⟨w.heap.size, 0, none⟩))) ∧ ∃ v1 w1, Q v1 w1 ∧ Below w.heap.size w w1 ∧ w1.heap[w.heap.size]? = some (.cells #[.int .u32 m, .slice none 0 0] 255 (0, 0)) ∧ w' = mrg1 w w1 v1 := by
  obtain ⟨h1, h2, h3⟩ := hd
  have HC := Lib.hid hc; clear hc
  have HD := Lib.hid hcall; clear hcall
  go_enter Try.func177, Try.ntmps177
  go_wp2_with fail
  refine HC.out.mono ?_
  rintro e w' ⟨rfl, rfl⟩
  go_wp2_with fail
  have HB : Hid (Below w.heap.size w (w.alloc (Obj.cells #[Value.int IntKind.u32 (m : Int), Value.slice none 0 0] 255))) := (Below.refl _ _).alloc (Nat.le_refl _) _
  have HS : Hid (w.heap.size < (w.alloc (Obj.cells #[Value.int IntKind.u32 (m : Int), Value.slice none 0 0] 255)).heap.size) := by show _ < (w.heap.push _).size; simp
  have HZ : Hid ((w.alloc (Obj.cells #[Value.int IntKind.u32 (m : Int), Value.slice none 0 0] 255)).heap[w.heap.size]? = some (.cells #[Value.int IntKind.u32 (m : Int), Value.slice none 0 0] 255 (0, 0))) := heap_alloc_last w _
  generalize w.alloc (Obj.cells #[Value.int IntKind.u32 (m : Int), Value.slice none 0 0] 255) = W at HB HS HZ ⊢
  refine (HD.out W HB.out HS.out).mono ?_
  rintro e w1 ⟨⟨t, q, rfl, hq⟩, hb1⟩
  have HQ := Lib.hid hq
  have HB1 : Hid (Below w.heap.size w w1) := HB.out.trans (hb1.mono HB.out.size)
  have HZ1 : Hid (w1.heap[w.heap.size]? = some (.cells #[Value.int IntKind.u32 (m : Int), Value.slice none 0 0] 255 (0, 0))) := (hb1.block _ HS.out).trans HZ.out
  clear hq hb1
  have HZ2 : Hid ((w1.alloc (Obj.cells #[Value.iface t (Value.pointer (some ⟨q, 0, none⟩))] 165)).heap[w.heap.size]? = some (.cells #[Value.int IntKind.u32 (m : Int), Value.slice none 0 0] 255 (0, 0))) :=
    (Below.heap_alloc w1 _ w.heap.size (lt_of_block HZ1.out)).trans HZ1.out
  have hz := cell_at (j := 1) HZ2.out rfl
  have hf : (w1.alloc (Obj.cells #[Value.iface t (Value.pointer (some ⟨q, 0, none⟩))] 165)).frozen? ⟨w.heap.size, 1, none⟩ = false := frozen_of_row _ _ _ _ _ HZ2.out
  go_wp2_with fail
  go_ret
  refine ⟨rfl, _, w1, HQ.out, HB1.out, HZ1.out, ?_⟩
  rfl
end Go.Proofs.Ytpkndcmgialgcaa
