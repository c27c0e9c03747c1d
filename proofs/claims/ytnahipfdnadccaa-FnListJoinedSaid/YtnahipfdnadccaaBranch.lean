/- The walks over a branch of a list's tree: get, set (as a copy). -/
import Derived.Test.YtnahipfdnadccaaLeafC
import Derived.Deep.RegionWith
namespace Go.Proofs.Ytnahipfdnadccaa
open Go.RowKit

set_option maxRecDepth 100000 in
set_option maxHeartbeats 400000 in
theorem branch_get_w (b : Nat) (i : Int) (j d : Nat) (x : Int) (w : World) (hd : d < 12) (hb : bits BinOp.and IntKind.i64 (i / 2 ^ (d * 5)) 31 = j) (hc0 : w.cell? ⟨b, 0, none⟩ = some (.int .u64 d)) (hj : j < 32) (p : Nat) (t fid : Nat) (hc : w.cell? ⟨b, 1 + j, none⟩ = some (.iface t (.pointer (some ⟨p, 0, none⟩))))
    (h0 : Disp t fid "pub-frond/pub/immutable.get")
    (h4 : Calls Try.prog fid #[.pointer (some ⟨p, 0, none⟩), .int .i64 i] w fun e w' => e = .returned (.int .i64 x) ∧ w = w') :
    Calls Try.prog 102 #[.pointer (some ⟨b, 0, none⟩), .int .i64 i] w fun e w' => e = .returned (.int .i64 x) ∧ w = w' := by
  obtain ⟨h1, h2, h3⟩ := h0
  have H4 := Lib.hid h4; clear h4
  go_enter Try.func102, Try.ntmps102
  go_wp2_with fail
  refine H4.out.mono ?_
  rintro e w' ⟨rfl, rfl⟩
  go_wp2
  go_ret
  exact ⟨rfl, rfl⟩

theorem get_any {S : Nat → Prop} {w : World} (i x : Int) : ∀ (d : Nat) (p : Nat) (f : Nat → Option Int), d < 12 → Node S w d (.iface (ty d) (.pointer (some ⟨p, 0, none⟩))) f → f (loc i d) = some x →
    Calls Try.prog (fn 92 102 d) #[.pointer (some ⟨p, 0, none⟩), .int .i64 i] w fun e w' => e = .returned (.int .i64 x) ∧ w = w'
  | 0, p, f, _, h, hx => leaf_get i x h hx
  | d + 1, p, f, hd, ⟨b, arr, h1, h2, h3, h4, h5, h6⟩, hx => by
    simp only [Value.iface.injEq, Value.pointer.injEq, Option.some.injEq, Addr.mk.injEq, and_true] at h1
    obtain ⟨_, h1⟩ := h1
    subst h1
    obtain ⟨c, hc, h7⟩ := h5 (slot i (d + 1)) (slot_lt i (d + 1))
    rw [loc_succ] at hx
    rcases h7 with ⟨_, h7⟩ | h7
    · rw [h7 _ (loc_lt i d)] at hx; cases hx
    · obtain ⟨q, rfl⟩ := h7.ptr
      exact branch_get_w p i (slot i (d + 1)) (d + 1) x w hd (slot_eq i (d + 1)) (cell_at h2 h4) (slot_lt i (d + 1)) q (ty d) (fn 92 102 d) (cell_at h2 hc) (disp_ty disp_get0 disp_get1 d)
        (get_any i x d q _ (by omega) h7 hx)

theorem after_cell {W w' : World} {n : Nat} {arr : Array Value} {t : TypeId} (hZ : Hid (W.heap[n]? = some (.cells arr t (0, 0)))) (hb : Below W.drew.heap.size W.drew w') : w'.heap[n]? = some (.cells arr t (0, 0)) := by
  rw [hb.block n (lt_of_block hZ.out)]; exact hZ.out

/-- what a set of a branch leaves: a new branch, but for one child as it was -/
def BranchSet (S : Nat → Prop) (w : World) (arr : Array Value) (j d : Nat) (g : Nat → Option Int) (e : Ending) (w' : World) : Prop :=
  ∃ (n : Nat) (v' : Value), e = .returned (.iface 122 (.pointer (some ⟨n, 0, none⟩))) ∧ w.heap.size ≤ n ∧ w'.heap[n]? = some (.cells (arr.setIfInBounds (1 + j) v') 125 (0, 0)) ∧
    Node (New S w) w' d v' g ∧ Below w.heap.size w w'

theorem branch_set_end {S : Nat → Prop} {w w1 W w' : World} {arr : Array Value} {j d q : Nat} {g : Nat → Option Int} (hw1 : Below w.heap.size w w1)
    (hB : Below w1.heap.size w1 W) (hsz : w1.heap.size < W.heap.size) (hZ : w'.heap[w1.heap.size]? = some (.cells arr 125 (0, 0)))
    (hn : Node (New (fun b => New S w b ∧ b < w1.heap.size) W.drew) w' d (.iface (ty d) (.pointer (some ⟨q, 0, none⟩))) g) (hb : Below W.drew.heap.size W.drew w') :
    BranchSet S w arr j d g (.returned (.iface 122 (.pointer (some ⟨w1.heap.size, 0, none⟩)))) (w'.setCell ⟨w1.heap.size, 1 + j, none⟩ (.iface (ty d) (.pointer (some ⟨q, 0, none⟩)))) := by
  have h1 : w.heap.size ≤ w1.heap.size := hw1.size
  refine ⟨_, _, rfl, h1, heap_setCell_same _ _ _ _ _ _ hZ, ?_, ?_⟩
  · refine Node.stayS (fun b c t hS hc _ => ?_) (fun b hS _ => ?_) _ _ _ hn
    · rw [heap_setCell_other]
      · exact hc
      · show b ≠ w1.heap.size
        rcases hS with hS | hS
        · omega
        · have : W.heap.size ≤ b := hS
          omega
    · rcases hS with hS | hS
      · exact hS.1
      · have : W.heap.size ≤ b := hS
        exact .inr (by omega)
  · refine Below.setCell ?_ h1 _
    have e1 : Below w.heap.size w W := hw1.trans (hB.mono h1)
    exact e1.drew.trans (hb.mono (by show w.heap.size ≤ W.heap.size; omega))

set_option maxRecDepth 100000 in
set_option maxHeartbeats 800000 in
theorem branch_set_w (S : Nat → Prop) (g : Nat → Option Int) (k b : Nat) (arr : Array Value) (i x : Int) (j d : Nat) (w : World) (hd : d + 1 < 12) (hb : bits BinOp.and IntKind.i64 (i / 2 ^ ((d + 1) * 5)) 31 = j) (hj : j < 32)
    (hblk : w.heap[b]? = some (.cells arr 125 (0, 0))) (hs : arr.size = 33) (hone : arr.all (·.oneCell') = true) (hc0 : arr[0]? = some (.int .u64 ((d + 1 : Nat) : Int))) (p : Nat) (t fid : Nat) (hc : arr[1 + j]? = some (.iface t (.pointer (some ⟨p, 0, none⟩))))
    (h0 : Disp t fid "pub-frond/pub/immutable.set")
    (hcall : ∀ w', Below w.heap.size w w' → Calls Try.prog fid #[.pointer (some ⟨p, 0, none⟩), .int .i64 i, .int .i64 x, .bool false] w' (SetPost (fun b => New S w b ∧ b < w.heap.size) w' d g k x)) :
    Calls Try.prog 103 #[.pointer (some ⟨b, 0, none⟩), .int .i64 i, .int .i64 x, .bool false] w (BranchSet S w arr j d (upd g k x)) := by
  have hst := fun (c : Array Value) (hc : c.size = 33) => run_storeCells_new (P := Try.prog) w 125 c arr (size125.trans (by rw [hs])) (by rw [hc, hs]) hone
  have hcell0 := cell_at hblk hc0
  have hcellj := cell_at hblk hc
  obtain ⟨h1, h2, h3⟩ := h0
  have H4 := Lib.hid hcall; clear hcall
  go_enter Try.func103, Try.ntmps103
  go_wp2_with (first | (with_reducible refine wpList_load_row rfl 125 _ rfl b rfl 125 arr (0, 0) _ hblk Try.underlying125 rfl (size125.trans (by rw [hs])) ?_))
  have hZ : Hid ((w.alloc (Obj.cells arr 125)).heap[w.heap.size]? = some (.cells arr 125 (0, 0))) := heap_alloc_last w _
  have hB : Hid (Below w.heap.size w (w.alloc (Obj.cells arr 125))) := (Below.refl _ _).alloc (Nat.le_refl _) _
  have hsz : Hid (w.heap.size < (w.alloc (Obj.cells arr 125)).heap.size) := by show _ < (w.heap.push _).size; simp
  generalize hW : w.alloc (Obj.cells arr 125) = W at hZ hB hsz ⊢
  clear hW hst
  go_region_with (first | ((with_reducible refine (H4.out _ hB.out.drew).mono ?_); rintro e w' ⟨v', rfl, hn, hb⟩; obtain ⟨q, rfl⟩ := hn.ptr; have hz' := after_cell hZ hb; have hc' := cell_at hz' hc; have hf' : w'.frozen? ⟨w.heap.size, 1 + j, none⟩ = false := frozen_of_row _ _ _ _ _ hz'; have HN := Lib.hid (And.intro hn hb); have HZ' := Lib.hid hz'; clear hn hb hz'))
  go_wp2
  go_ret
  exact branch_set_end (Below.refl _ _) hB.out hsz.out HZ'.out HN.out.1 HN.out.2

set_option maxRecDepth 100000 in
set_option maxHeartbeats 800000 in
theorem branch_set_n (S : Nat → Prop) (k b : Nat) (arr : Array Value) (i x : Int) (j d : Nat) (w : World) (hd : d + 1 < 12) (hb : bits BinOp.and IntKind.i64 (i / 2 ^ ((d + 1) * 5)) 31 = j) (hj : j < 32)
    (hblk : w.heap[b]? = some (.cells arr 125 (0, 0))) (hs : arr.size = 33) (hone : arr.all (·.oneCell') = true) (hc0 : arr[0]? = some (.int .u64 ((d + 1 : Nat) : Int))) (hc : arr[1 + j]? = some .nilIface)
    (t fid : Nat) (ht : t = ty d) (h0 : Disp t fid "pub-frond/pub/immutable.set")
    (hnew : ∀ w', Calls Try.prog 104 #[.int .u64 (d : Int)] w' (DelPost S w' d (fun _ => none)))
    (hcall : ∀ (w' : World) (p : Nat) (S' : Nat → Prop), Node S' w' d (.iface t (.pointer (some ⟨p, 0, none⟩))) (fun _ => none) → Calls Try.prog fid #[.pointer (some ⟨p, 0, none⟩), .int .i64 i, .int .i64 x, .bool false] w' (SetPost S' w' d (fun _ => none) k x)) :
    Calls Try.prog 103 #[.pointer (some ⟨b, 0, none⟩), .int .i64 i, .int .i64 x, .bool false] w (BranchSet S w arr j d (upd (fun _ => none) k x)) := by
  have hcell0 := cell_at hblk hc0
  have hcellj := cell_at hblk hc
  obtain ⟨h1, h2, h3⟩ := h0
  have H4 := Lib.hid hcall; clear hcall
  have H5 := Lib.hid hnew; clear hnew
  have HT := Lib.hid ht; clear ht
  go_enter Try.func103, Try.ntmps103
  go_wp2_with fail
  refine (depth_w1 b _ _ hcell0).mono ?_
  rintro e w' ⟨rfl, rfl⟩
  go_wp2_with fail
  refine (H5.out _).mono ?_
  rintro e w1 ⟨c, rfl, hn1, hb1⟩
  obtain ⟨p, hp⟩ := hn1.ptr
  rw [← HT.out] at hp
  subst hp
  have hblk1 : Hid (w1.heap[b]? = some (.cells arr 125 (0, 0))) := by show w1.heap[b]? = _; rw [hb1.block b (lt_of_block hblk)]; exact hblk
  have hst := fun (c : Array Value) (hc : c.size = 33) => run_storeCells_new (P := Try.prog) w1 125 c arr (size125.trans (by rw [hs])) (by rw [hc, hs]) hone
  have HN1 := Lib.hid hn1
  have HB1 := Lib.hid hb1
  clear hn1 hb1 hcell0 hcellj hblk
  go_wp2_with (first | (with_reducible refine wpList_load_row rfl 125 _ rfl b rfl 125 arr (0, 0) _ hblk1.out Try.underlying125 rfl (size125.trans (by rw [hs])) ?_))
  have hZ : Hid ((w1.alloc (Obj.cells arr 125)).heap[w1.heap.size]? = some (.cells arr 125 (0, 0))) := heap_alloc_last w1 _
  have hB : Hid (Below w1.heap.size w1 (w1.alloc (Obj.cells arr 125))) := (Below.refl _ _).alloc (Nat.le_refl _) _
  have hsz : Hid (w1.heap.size < (w1.alloc (Obj.cells arr 125)).heap.size) := by show _ < (w1.heap.push _).size; simp
  generalize hW : w1.alloc (Obj.cells arr 125) = W at hZ hB hsz ⊢
  clear hW hst
  have H6 : Hid (Calls Try.prog fid #[.pointer (some ⟨p, 0, none⟩), .int .i64 i, .int .i64 x, .bool false] W.drew (SetPost (fun b => New S w b ∧ b < w1.heap.size) W.drew d (fun _ => none) k x)) :=
    H4.out _ p _ (Node.stay (Stay.of_below hB.out.drew) _ _ _ (by rw [HT.out]; exact (HT.out ▸ HN1.out).inS fun b h1 h2 => ⟨h1, h2⟩))
  go_region_with (first | ((with_reducible refine H6.out.mono ?_); rintro e w' ⟨v', rfl, hn, hb⟩; obtain ⟨q, rfl⟩ := hn.ptr; have hz' := after_cell hZ hb; have hc' := cell_at hz' hc; have hf' : w'.frozen? ⟨w1.heap.size, 1 + j, none⟩ = false := frozen_of_row _ _ _ _ _ hz'; have HN := Lib.hid (And.intro hn hb); have HZ' := Lib.hid hz'; clear hn hb hz'))
  go_wp2
  go_ret
  exact branch_set_end HB1.out hB.out hsz.out HZ'.out HN.out.1 HN.out.2

end Go.Proofs.Ytnahipfdnadccaa
