/- The walks over a map's branches: get. -/
import Derived.Test.YtpkndcmgialgcaaNode
namespace Go.Proofs.Ytpkndcmgialgcaa
open Go.RowKit

/-- what a get answers -/
def GetPost (o : Option Int) (w : World) (e : Ending) (w' : World) : Prop := e = .returned (.tuple #[.int .i64 (o.getD 0), .bool o.isSome]) ∧ Below w.heap.size w w'

set_option maxRecDepth 100000 in
set_option maxHeartbeats 400000 in
theorem hsh_get_n (H : Value) (b : Nat) (sf hh : Nat) (key : Int) (j : Nat) (hj : j < 32) (hs : sf < 32) (hb : bits BinOp.and IntKind.u32 ((hh : Int) / 2 ^ sf) 31 = (j : Int)) (w : World) (hc : w.cell? ⟨b, 1 + j, none⟩ = some .nilIface) :
    Calls Try.prog 204 #[.pointer (some ⟨b, 0, none⟩), .int .i64 key, .int .u64 sf, .int .u32 hh, H] w (GetPost none w) := by
  go_enter Try.func204, Try.ntmps204
  go_wp2
  go_ret2
  exact ⟨rfl, Below.refl _ _⟩

set_option maxRecDepth 100000 in
set_option maxHeartbeats 400000 in
theorem hsh_get_w (H : Value) (b : Nat) (sf hh : Nat) (key : Int) (j : Nat) (hj : j < 32) (hs : sf < 32) (hb : bits BinOp.and IntKind.u32 ((hh : Int) / 2 ^ sf) 31 = (j : Int)) (w : World) (p t fid : Nat)
    (hc : w.cell? ⟨b, 1 + j, none⟩ = some (.iface t (.pointer (some ⟨p, 0, none⟩)))) (hd : Disp t (.pointer (some ⟨p, 0, none⟩)) fid "pub-frond/pub/immutable.get") (o : Option Int)
    (hcall : Calls Try.prog fid #[.pointer (some ⟨p, 0, none⟩), .int .i64 key, .int .u64 (sf + 5 : Nat), .int .u32 hh, H] w (GetPost o w)) :
    Calls Try.prog 204 #[.pointer (some ⟨b, 0, none⟩), .int .i64 key, .int .u64 sf, .int .u32 hh, H] w (GetPost o w) := by
  obtain ⟨h1, h2, h3⟩ := hd
  have H4 := Lib.hid hcall; clear hcall
  go_enter Try.func204, Try.ntmps204
  go_wp2_with fail
  refine H4.out.mono ?_
  rintro e w' ⟨rfl, hb⟩
  have HB := Lib.hid hb; clear hb
  go_wp2
  go_ret2
  exact ⟨rfl, HB.out⟩

set_option maxRecDepth 100000 in
set_option maxHeartbeats 400000 in
theorem bmp_get_n (H : Value) (b : Nat) (sf hh : Nat) (key : Int) (j m : Nat) (hj : j < 32) (hs : sf < 32) (hb : bits BinOp.and IntKind.u32 ((hh : Int) / 2 ^ sf) 31 = (j : Int)) (hz : (bits BinOp.and IntKind.u32 (m : Int) (2 ^ j % 4294967296) == 0) = true) (w : World) (hc : w.cell? ⟨b, 0, none⟩ = some (.int .u32 m)) :
    Calls Try.prog 199 #[.pointer (some ⟨b, 0, none⟩), .int .i64 key, .int .u64 sf, .int .u32 hh, H] w (GetPost none w) := by
  go_enter Try.func199, Try.ntmps199
  go_wp2
  go_ret2
  exact ⟨rfl, Below.refl _ _⟩

set_option maxRecDepth 100000 in
set_option maxHeartbeats 400000 in
theorem bmp_get_w (H : Value) (b : Nat) (sf hh : Nat) (key : Int) (j m nb n cap i : Nat) (hj : j < 32) (hs : sf < 32) (hb : bits BinOp.and IntKind.u32 ((hh : Int) / 2 ^ sf) 31 = (j : Int))
    (hz : (bits BinOp.and IntKind.u32 (m : Int) (2 ^ j % 4294967296) == 0) = false) (mr : Nat) (hr : bits BinOp.and IntKind.u32 m (IntKind.u32.wrap (2 ^ j % 4294967296 - 1)) = (mr : Int)) (hmr : mr < 4294967296) (hi : i = cnt mr.testBit 32) (hin : i < n) (w : World) (p t fid : Nat)
    (hc0 : w.cell? ⟨b, 0, none⟩ = some (.int .u32 m)) (hc1 : w.cell? ⟨b, 1, none⟩ = some (.slice (some ⟨nb, 0, none⟩) n cap))
    (hc : w.cell? ⟨nb, i, none⟩ = some (.iface t (.pointer (some ⟨p, 0, none⟩)))) (hd : Disp t (.pointer (some ⟨p, 0, none⟩)) fid "pub-frond/pub/immutable.get") (o : Option Int)
    (hcall : ∀ w', Below w.heap.size w w' → Calls Try.prog fid #[.pointer (some ⟨p, 0, none⟩), .int .i64 key, .int .u64 (sf + 5 : Nat), .int .u32 hh, H] w' (GetPost o w')) :
    Calls Try.prog 199 #[.pointer (some ⟨b, 0, none⟩), .int .i64 key, .int .u64 sf, .int .u32 hh, H] w (GetPost o w) := by
  obtain ⟨h1, h2, h3⟩ := hd
  have H4 := Lib.hid hcall; clear hcall
  have HP : ∀ w, Hid (Calls Try.prog 201 #[.int .u32 mr] w fun e w' => e = .returned (.int .i64 (i : Nat)) ∧ Below w.heap.size w w') := fun w => by
    have hp := pop_w (mr : Int) w (by omega) (by omega)
    rw [Int.toNat_natCast, ← hi] at hp
    exact Lib.hid hp
  have HL := Lib.hid (World.block_lt_of_cell? w _ hc)
  have HL0 := Lib.hid (World.block_lt_of_cell? w _ hc0)
  clear hi hmr
  go_enter Try.func199, Try.ntmps199
  go_wp2
  have HR0 : Hid (Below w.heap.size w w.drew) := (Below.refl _ w).drew
  refine region_segsR (fun W => Below w.heap.size w W) [([0, 1, 2, 3, 4, 5, 6, 7, 8, 9, 10], [11]), ([12, 13], [14])] (by kernel_rfl) (by intro dst v c a w h; cases dst <;> exact h) (by kernel_rfl) HR0.out ?_
  refine r_segs ?_
  simp only [opsOf, List.getElem?_toArray, List.getElem?_cons_succ, List.getElem?_cons_zero]
  repeat (refine r_read ?_ (by kernel_rfl) ?_ (fun K hK => ?_); rotate_left 1; (intro W hR; have hc0 := (hR.cell HL0.out).trans hc0; have hc1 := (hR.cell HL0.out).trans hc1; clear hR; go_simp; try with_reducible rfl); go_simp; refine hK _ ?_; clear hK K)
  refine r_nil1 ?_
  refine r_op rfl (fun K hK => ?_)
  go_simp
  refine (HP _).out.mono ?_
  rintro e w1 ⟨rfl, hb1⟩
  have HB1 : Hid (Below w.heap.size w w1) := Below.undrew hb1
  clear hb1
  refine hK _ _ HB1.out ?_
  clear hK K
  refine r_segs ?_
  simp only [opsOf, List.getElem?_toArray, List.getElem?_cons_succ, List.getElem?_cons_zero]
  repeat (refine r_read ?_ (by kernel_rfl) ?_ (fun K hK => ?_); rotate_left 1; (intro W hR; have hc := (hR.cell HL.out).trans hc; clear hR; go_simp; try with_reducible rfl); go_simp; refine hK _ ?_; clear hK K)
  refine r_nil1 ?_
  refine r_op rfl (fun K hK => ?_)
  go_simp
  refine hK _ _ HB1.out ?_
  clear hK K
  refine r_end ?_
  go_wp2_with fail
  refine (H4.out _ HB1.out).mono ?_
  rintro e w' ⟨rfl, hb⟩
  have HB := Lib.hid (HB1.out.trans (hb.mono HB1.out.size)); clear hb
  go_wp2
  go_ret2
  exact ⟨rfl, HB.out⟩
end Go.Proofs.Ytpkndcmgialgcaa
