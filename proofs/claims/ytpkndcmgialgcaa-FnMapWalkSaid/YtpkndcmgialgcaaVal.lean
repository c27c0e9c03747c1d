/- The walks over a map's leaf of one pair. -/
import Derived.Test.YtpkndcmgialgcaaBase
import Derived.Deep.RegionWith
import Derived.LoopTactic
import Derived.BigQuiet
namespace Go.Proofs.Ytpkndcmgialgcaa
open Go.RowKit

/-- a cell of a row -/
theorem cell_at {w : World} {b j : Nat} {arr : Array Value} {t : TypeId} {fz : Nat × Nat} {v : Value} (hg : w.heap[b]? = some (.cells arr t fz)) (hv : arr[j]? = some v) : w.cell? ⟨b, j, none⟩ = some v := by
  rw [cell_of_row _ _ _ _ _ _ hg]; exact hv
theorem lt_of_block {w : World} {b : Nat} {o : Obj} (h : w.heap[b]? = some o) : b < w.heap.size := by
  rcases Nat.lt_or_ge b w.heap.size with h1 | h1
  · exact h1
  · rw [Array.getElem?_eq_none h1] at h; cases h

/-- one word of an interface's call: the nil check, the method, the call -/
def Disp (t : Nat) (v : Value) (fid : Nat) (name : String) : Prop :=
  (∀ (w : World), (nilAhead 465 t v name).run Try.prog w = .ok (some false) w) ∧
  (∀ (w : World), (method 465 t v name).run Try.prog w = .ok (fid, v) w) ∧
  (∀ (args : Array Value) (w : World), (callFunc fid args).run Try.prog w = .ok (.enter fid args) w)
theorem disp_equal (mo mu sh : Int) : Disp 175 (av mo mu sh) 166 "Equal" := ⟨fun w => by kernel_rfl, fun w => by kernel_rfl, fun a w => by kernel_rfl⟩
theorem disp_hash (mo mu sh : Int) : Disp 175 (av mo mu sh) 167 "Hash" := ⟨fun w => by kernel_rfl, fun w => by kernel_rfl, fun a w => by kernel_rfl⟩

theorem Below.undrew {w w' : World} (h : Below w.drew.heap.size w.drew w') : Below w.heap.size w w' := (Below.refl _ w).drew.trans h

/-- a region that draws its order: what leaves the world, then a tail whose order is forced -/
theorem region_tail {P : Program} {id : Nat} {Q : Exit → Act → World → Prop} {a : Act} {w : World} {l : List Oper} (n : Nat) (hm : P.follows .mixedOrders = true) (hB : Region.lexTailB .any l.toArray n = true)
    (h : wpStill P l.toArray w.drew (fun a' => wpList P l.toArray Q (l.drop n) a' w.drew) (l.take n) a) : (Code.region id l.toArray true).wp P Q a w :=
  wp_region_still_tail n hm hB h

set_option maxRecDepth 100000 in
set_option maxHeartbeats 400000 in
theorem val_get_w (mo mu sh : Int) (b : Nat) (x k v key : Int) (sf hh : Int) (d : Bool) (HD : Hid (d = decide (k = key))) (w : World) (hblk : w.heap[b]? = some (.cells #[.int .u32 x, .int .i64 k, .int .i64 v] 186 (0, 0))) :
    Calls Try.prog 174 #[.pointer (some ⟨b, 0, none⟩), .int .i64 key, .int .u64 sf, .int .u32 hh, .iface 175 (av mo mu sh)] w fun e w' => e = .returned (.tuple #[.int .i64 (bif d then v else 0), .bool d]) ∧ Below w.heap.size w w' := by
  have hc1 := cell_at (j := 1) hblk rfl
  have hc2 := cell_at (j := 2) hblk rfl
  have hlt := Lib.hid (lt_of_block hblk)
  obtain ⟨h1, h2, h3⟩ := disp_equal mo mu sh
  have HE : ∀ w, Hid (Calls Try.prog 166 #[av mo mu sh, .int .i64 k, .int .i64 key] w fun e w' => e = .returned (.bool d) ∧ Below w.heap.size w w') := fun w => by rw [HD.out]; exact Lib.hid (equal_w mo mu sh k key w)
  clear hblk HD
  go_enter Try.func174, Try.ntmps174
  go_wp2
  refine region_tail 9 (by kernel_rfl) (by kernel_rfl) ?_
  simp only [List.take_succ_cons, List.take_zero, List.drop_succ_cons, List.drop_zero]
  repeat still_step
  refine wpStill_nil ?_
  go_wp2_with fail
  refine (HE _).out.mono ?_
  rintro e w' ⟨rfl, hb⟩
  have HB := Lib.hid (Below.undrew hb)
  have hc2' := (HB.out.cell hlt.out).trans hc2
  clear hb
  cases d
  · go_wp2
    go_ret2
    exact ⟨rfl, HB.out⟩
  · go_wp2
    go_ret2
    exact ⟨rfl, HB.out⟩
end Go.Proofs.Ytpkndcmgialgcaa
