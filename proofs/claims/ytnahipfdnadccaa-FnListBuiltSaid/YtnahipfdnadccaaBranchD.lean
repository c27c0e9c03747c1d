/- The walks over a branch of a list's tree: get, set (as a copy).

set at a node of whatever depth; what a branch has ahead of a place or behind it; delete (as a copy).

A branch: what it has behind a place; delete ahead of a place and behind it (as a copy).

A branch: delete behind a place (as a copy); contains and delete at nodes of whatever depth. -/
import Derived.Test.YtnahipfdnadccaaLeafC
import Derived.Deep.RegionWith
import Derived.LoopTactic
import Derived.BigQuiet
namespace Go.Proofs.Ytnahipfdnadccaa
open Go.RowKit

set_option maxRecDepth 100000 in
set_option maxHeartbeats 400000 in
theorem branch_get_w (b : Nat) (i : Int) (j d : Nat) (x : Int) (w : World) (hd : d < 12) (hb : bits BinOp.and IntKind.i64 (i / 2 ^ (d * 5)) 31 = j) (hc0 : w.cell? ⟨b, 0, none⟩ = some (.int .u64 d)) (hj : j < 32) (p : Nat) (t fid : Nat) (hc : w.cell? ⟨b, 1 + j, none⟩ = some (.iface t (.pointer (some ⟨p, 0, none⟩))))
    (h0 : Disp t fid "pub-frond/pub/immutable.get")
    (h4 : Calls Try.prog fid #[.pointer (some ⟨p, 0, none⟩), .int .i64 i] w fun e w' => e = .returned (.int .i64 x) ∧ w = w') :
    Calls Try.prog 102 #[.pointer (some ⟨b, 0, none⟩), .int .i64 i] w fun e w' => e = .returned (.int .i64 x) ∧ w = w' := by
  obtain ⟨h1, h2, h3⟩ := h0
  have H4 := Lib.hid h4; clear h4
  go_enter Try.func102, Try.ntmps102
  go_wp2_with fail
  refine H4.out.mono ?_
  rintro e w' ⟨rfl, rfl⟩
  go_wp2
  go_ret
  exact ⟨rfl, rfl⟩

theorem get_any {S : Nat → Prop} {w : World} (i x : Int) : ∀ (d : Nat) (p : Nat) (f : Nat → Option Int), d < 12 → Node S w d (.iface (ty d) (.pointer (some ⟨p, 0, none⟩))) f → f (loc i d) = some x →
    Calls Try.prog (fn 92 102 d) #[.pointer (some ⟨p, 0, none⟩), .int .i64 i] w fun e w' => e = .returned (.int .i64 x) ∧ w = w'
  | 0, p, f, _, h, hx => leaf_get i x h hx
  | d + 1, p, f, hd, ⟨b, arr, h1, h2, h3, h4, h5, h6⟩, hx => by
    simp only [Value.iface.injEq, Value.pointer.injEq, Option.some.injEq, Addr.mk.injEq, and_true] at h1
    obtain ⟨_, h1⟩ := h1
    subst h1
    obtain ⟨c, hc, h7⟩ := h5 (slot i (d + 1)) (slot_lt i (d + 1))
    rw [loc_succ] at hx
    rcases h7 with ⟨_, h7⟩ | h7
    · rw [h7 _ (loc_lt i d)] at hx; cases hx
    · obtain ⟨q, rfl⟩ := h7.ptr
      exact branch_get_w p i (slot i (d + 1)) (d + 1) x w hd (slot_eq i (d + 1)) (cell_at h2 h4) (slot_lt i (d + 1)) q (ty d) (fn 92 102 d) (cell_at h2 hc) (disp_ty disp_get0 disp_get1 d)
        (get_any i x d q _ (by omega) h7 hx)

theorem after_cell {W w' : World} {n : Nat} {arr : Array Value} {t : TypeId} (hZ : Hid (W.heap[n]? = some (.cells arr t (0, 0)))) (hb : Below W.drew.heap.size W.drew w') : w'.heap[n]? = some (.cells arr t (0, 0)) := by
  rw [hb.block n (lt_of_block hZ.out)]; exact hZ.out

/-- what a set of a branch leaves: a new branch, but for one child as it was -/
def BranchSet (S : Nat → Prop) (w : World) (arr : Array Value) (j d : Nat) (g : Nat → Option Int) (e : Ending) (w' : World) : Prop :=
  ∃ (n : Nat) (v' : Value), e = .returned (.iface 122 (.pointer (some ⟨n, 0, none⟩))) ∧ w.heap.size ≤ n ∧ w'.heap[n]? = some (.cells (arr.setIfInBounds (1 + j) v') 125 (0, 0)) ∧
    Node (New S w) w' d v' g ∧ Below w.heap.size w w'

theorem branch_set_end {S : Nat → Prop} {w w1 W w' : World} {arr : Array Value} {j d q : Nat} {g : Nat → Option Int} (hw1 : Below w.heap.size w w1)
    (hB : Below w1.heap.size w1 W) (hsz : w1.heap.size < W.heap.size) (hZ : w'.heap[w1.heap.size]? = some (.cells arr 125 (0, 0)))
    (hn : Node (New (fun b => New S w b ∧ b < w1.heap.size) W.drew) w' d (.iface (ty d) (.pointer (some ⟨q, 0, none⟩))) g) (hb : Below W.drew.heap.size W.drew w') :
    BranchSet S w arr j d g (.returned (.iface 122 (.pointer (some ⟨w1.heap.size, 0, none⟩)))) (w'.setCell ⟨w1.heap.size, 1 + j, none⟩ (.iface (ty d) (.pointer (some ⟨q, 0, none⟩)))) := by
  have h1 : w.heap.size ≤ w1.heap.size := hw1.size
  refine ⟨_, _, rfl, h1, heap_setCell_same _ _ _ _ _ _ hZ, ?_, ?_⟩
  · refine Node.stayS (fun b c t hS hc _ => ?_) (fun b hS _ => ?_) _ _ _ hn
    · rw [heap_setCell_other]
      · exact hc
      · show b ≠ w1.heap.size
        rcases hS with hS | hS
        · omega
        · have : W.heap.size ≤ b := hS
          omega
    · rcases hS with hS | hS
      · exact hS.1
      · have : W.heap.size ≤ b := hS
        exact .inr (by omega)
  · refine Below.setCell ?_ h1 _
    have e1 : Below w.heap.size w W := hw1.trans (hB.mono h1)
    exact e1.drew.trans (hb.mono (by show w.heap.size ≤ W.heap.size; omega))

set_option maxRecDepth 100000 in
set_option maxHeartbeats 800000 in
theorem branch_set_w (S : Nat → Prop) (g : Nat → Option Int) (k b : Nat) (arr : Array Value) (i x : Int) (j d : Nat) (w : World) (hd : d + 1 < 12) (hb : bits BinOp.and IntKind.i64 (i / 2 ^ ((d + 1) * 5)) 31 = j) (hj : j < 32)
    (hblk : w.heap[b]? = some (.cells arr 125 (0, 0))) (hs : arr.size = 33) (hone : arr.all (·.oneCell') = true) (hc0 : arr[0]? = some (.int .u64 ((d + 1 : Nat) : Int))) (p : Nat) (t fid : Nat) (hc : arr[1 + j]? = some (.iface t (.pointer (some ⟨p, 0, none⟩))))
    (h0 : Disp t fid "pub-frond/pub/immutable.set")
    (hcall : ∀ w', Below w.heap.size w w' → Calls Try.prog fid #[.pointer (some ⟨p, 0, none⟩), .int .i64 i, .int .i64 x, .bool false] w' (SetPost (fun b => New S w b ∧ b < w.heap.size) w' d g k x)) :
    Calls Try.prog 103 #[.pointer (some ⟨b, 0, none⟩), .int .i64 i, .int .i64 x, .bool false] w (BranchSet S w arr j d (upd g k x)) := by
  have hst := fun (c : Array Value) (hc : c.size = 33) => run_storeCells_new (P := Try.prog) w 125 c arr (size125.trans (by rw [hs])) (by rw [hc, hs]) hone
  have hcell0 := cell_at hblk hc0
  have hcellj := cell_at hblk hc
  obtain ⟨h1, h2, h3⟩ := h0
  have H4 := Lib.hid hcall; clear hcall
  go_enter Try.func103, Try.ntmps103
  go_wp2_with (first | (with_reducible refine wpList_load_row rfl 125 _ rfl b rfl 125 arr (0, 0) _ hblk Try.underlying125 rfl (size125.trans (by rw [hs])) ?_))
  have hZ : Hid ((w.alloc (Obj.cells arr 125)).heap[w.heap.size]? = some (.cells arr 125 (0, 0))) := heap_alloc_last w _
  have hB : Hid (Below w.heap.size w (w.alloc (Obj.cells arr 125))) := (Below.refl _ _).alloc (Nat.le_refl _) _
  have hsz : Hid (w.heap.size < (w.alloc (Obj.cells arr 125)).heap.size) := by show _ < (w.heap.push _).size; simp
  generalize hW : w.alloc (Obj.cells arr 125) = W at hZ hB hsz ⊢
  clear hW hst
  go_region_with (first | ((with_reducible refine (H4.out _ hB.out.drew).mono ?_); rintro e w' ⟨v', rfl, hn, hb⟩; obtain ⟨q, rfl⟩ := hn.ptr; have hz' := after_cell hZ hb; have hc' := cell_at hz' hc; have hf' : w'.frozen? ⟨w.heap.size, 1 + j, none⟩ = false := frozen_of_row _ _ _ _ _ hz'; have HN := Lib.hid (And.intro hn hb); have HZ' := Lib.hid hz'; clear hn hb hz'))
  go_wp2
  go_ret
  exact branch_set_end (Below.refl _ _) hB.out hsz.out HZ'.out HN.out.1 HN.out.2

set_option maxRecDepth 100000 in
set_option maxHeartbeats 800000 in
theorem branch_set_n (S : Nat → Prop) (k b : Nat) (arr : Array Value) (i x : Int) (j d : Nat) (w : World) (hd : d + 1 < 12) (hb : bits BinOp.and IntKind.i64 (i / 2 ^ ((d + 1) * 5)) 31 = j) (hj : j < 32)
    (hblk : w.heap[b]? = some (.cells arr 125 (0, 0))) (hs : arr.size = 33) (hone : arr.all (·.oneCell') = true) (hc0 : arr[0]? = some (.int .u64 ((d + 1 : Nat) : Int))) (hc : arr[1 + j]? = some .nilIface)
    (t fid : Nat) (ht : t = ty d) (h0 : Disp t fid "pub-frond/pub/immutable.set")
    (hnew : ∀ w', Calls Try.prog 104 #[.int .u64 (d : Int)] w' (DelPost S w' d (fun _ => none)))
    (hcall : ∀ (w' : World) (p : Nat) (S' : Nat → Prop), Node S' w' d (.iface t (.pointer (some ⟨p, 0, none⟩))) (fun _ => none) → Calls Try.prog fid #[.pointer (some ⟨p, 0, none⟩), .int .i64 i, .int .i64 x, .bool false] w' (SetPost S' w' d (fun _ => none) k x)) :
    Calls Try.prog 103 #[.pointer (some ⟨b, 0, none⟩), .int .i64 i, .int .i64 x, .bool false] w (BranchSet S w arr j d (upd (fun _ => none) k x)) := by
  have hcell0 := cell_at hblk hc0
  have hcellj := cell_at hblk hc
  obtain ⟨h1, h2, h3⟩ := h0
  have H4 := Lib.hid hcall; clear hcall
  have H5 := Lib.hid hnew; clear hnew
  have HT := Lib.hid ht; clear ht
  go_enter Try.func103, Try.ntmps103
  go_wp2_with fail
  refine (depth_w1 b _ _ hcell0).mono ?_
  rintro e w' ⟨rfl, rfl⟩
  go_wp2_with fail
  refine (H5.out _).mono ?_
  rintro e w1 ⟨c, rfl, hn1, hb1⟩
  obtain ⟨p, hp⟩ := hn1.ptr
  rw [← HT.out] at hp
  subst hp
  have hblk1 : Hid (w1.heap[b]? = some (.cells arr 125 (0, 0))) := by show w1.heap[b]? = _; rw [hb1.block b (lt_of_block hblk)]; exact hblk
  have hst := fun (c : Array Value) (hc : c.size = 33) => run_storeCells_new (P := Try.prog) w1 125 c arr (size125.trans (by rw [hs])) (by rw [hc, hs]) hone
  have HN1 := Lib.hid hn1
  have HB1 := Lib.hid hb1
  clear hn1 hb1 hcell0 hcellj hblk
  go_wp2_with (first | (with_reducible refine wpList_load_row rfl 125 _ rfl b rfl 125 arr (0, 0) _ hblk1.out Try.underlying125 rfl (size125.trans (by rw [hs])) ?_))
  have hZ : Hid ((w1.alloc (Obj.cells arr 125)).heap[w1.heap.size]? = some (.cells arr 125 (0, 0))) := heap_alloc_last w1 _
  have hB : Hid (Below w1.heap.size w1 (w1.alloc (Obj.cells arr 125))) := (Below.refl _ _).alloc (Nat.le_refl _) _
  have hsz : Hid (w1.heap.size < (w1.alloc (Obj.cells arr 125)).heap.size) := by show _ < (w1.heap.push _).size; simp
  generalize hW : w1.alloc (Obj.cells arr 125) = W at hZ hB hsz ⊢
  clear hW hst
  have H6 : Hid (Calls Try.prog fid #[.pointer (some ⟨p, 0, none⟩), .int .i64 i, .int .i64 x, .bool false] W.drew (SetPost (fun b => New S w b ∧ b < w1.heap.size) W.drew d (fun _ => none) k x)) :=
    H4.out _ p _ (Node.stay (Stay.of_below hB.out.drew) _ _ _ (by rw [HT.out]; exact (HT.out ▸ HN1.out).inS fun b h1 h2 => ⟨h1, h2⟩))
  go_region_with (first | ((with_reducible refine H6.out.mono ?_); rintro e w' ⟨v', rfl, hn, hb⟩; obtain ⟨q, rfl⟩ := hn.ptr; have hz' := after_cell hZ hb; have hc' := cell_at hz' hc; have hf' : w'.frozen? ⟨w1.heap.size, 1 + j, none⟩ = false := frozen_of_row _ _ _ _ _ hz'; have HN := Lib.hid (And.intro hn hb); have HZ' := Lib.hid hz'; clear hn hb hz'))
  go_wp2
  go_ret
  exact branch_set_end HB1.out hB.out hsz.out HZ'.out HN.out.1 HN.out.2

end Go.Proofs.Ytnahipfdnadccaa

namespace Go.Proofs.Ytnahipfdnadccaa
open Go.RowKit

theorem branch_one {S : Nat → Prop} {w : World} {d : Nat} {arr : Array Value} {f : Nat → Option Int} (hs : arr.size = 33) (h4 : arr[0]? = some (.int .u64 ((d + 1 : Nat) : Int)))
    (h5 : ∀ k, k < 32 → ∃ c, arr[1 + k]? = some c ∧ ((c = .nilIface ∧ ∀ j, j < 32 ^ (d + 1) → f (k * 32 ^ (d + 1) + j) = none) ∨ Node S w d c (fun j => f (k * 32 ^ (d + 1) + j)))) : arr.all (·.oneCell') = true :=
  arr_one hs fun k hk => by
    cases k with
    | zero => exact ⟨_, h4, rfl⟩
    | succ k =>
      obtain ⟨c, hc, h⟩ := h5 k (by omega)
      rw [Nat.add_comm k 1]
      rcases h with ⟨rfl, _⟩ | h
      · exact ⟨_, hc, rfl⟩
      · obtain ⟨p, rfl⟩ := h.ptr; exact ⟨_, hc, rfl⟩

theorem new_any (S : Nat → Prop) (d : Nat) (w : World) (hd : d < 12) : Calls Try.prog 104 #[.int .u64 (d : Int)] w (DelPost S w d (fun _ => none)) := by
  cases d with
  | zero => exact new_w0 S w
  | succ d => exact new_w1 S d w (by omega)

theorem set_any (i x : Int) : ∀ (d : Nat) (S : Nat → Prop) (w : World) (p : Nat) (f : Nat → Option Int), d < 12 → Node S w d (.iface (ty d) (.pointer (some ⟨p, 0, none⟩))) f →
    Calls Try.prog (fn 93 103 d) #[.pointer (some ⟨p, 0, none⟩), .int .i64 i, .int .i64 x, .bool false] w (SetPost S w d f (loc i d) x)
  | 0, S, w, p, f, _, h => leaf_set i x h
  | d + 1, S, w, p, f, hd, ⟨b, arr, h1, h2, h3, h4, h5, h6⟩ => by
    simp only [Value.iface.injEq, Value.pointer.injEq, Option.some.injEq, Addr.mk.injEq, and_true] at h1
    obtain ⟨_, h1⟩ := h1
    subst h1
    have hone := branch_one h3 h4 h5
    obtain ⟨c, hc, h7⟩ := h5 (slot i (d + 1)) (slot_lt i (d + 1))
    have key : ∀ e w', BranchSet S w arr (slot i (d + 1)) d (upd (fun j => f (slot i (d + 1) * 32 ^ (d + 1) + j)) (loc i d) x) e w' → SetPost S w (d + 1) f (loc i (d + 1)) x e w' := by
      rintro e w' ⟨n, v', rfl, hn, hz, hv, hb⟩
      refine ⟨_, rfl, ⟨n, _, rfl, hz, by simp [h3], ?_, fun k hk => ?_, .inr hn⟩, hb⟩
      · rw [Array.getElem?_setIfInBounds_ne (by omega)]; exact h4
      · by_cases e : k = slot i (d + 1)
        · subst e
          refine ⟨v', ?_, .inr ?_⟩
          · rw [Array.getElem?_setIfInBounds_self_of_lt (by rw [h3]; omega)]
          · rw [loc_succ, upd_shift]; exact hv
        · obtain ⟨c', hc', h8⟩ := h5 k hk
          refine ⟨c', ?_, ?_⟩
          · rw [Array.getElem?_setIfInBounds_ne (by omega)]; exact hc'
          · have hu : ∀ j, j < 32 ^ (d + 1) → upd f (loc i (d + 1)) x (k * 32 ^ (d + 1) + j) = f (k * 32 ^ (d + 1) + j) := fun j hj => by
              rw [loc_succ]; exact upd_other _ _ _ _ _ _ (fun h => e h.symm) (loc_lt i d) _ hj
            rcases h8 with ⟨h8, h9⟩ | h8
            · exact .inl ⟨h8, fun j hj => (hu j hj).trans (h9 j hj)⟩
            · refine .inr (Node.mono _ _ _ _ ((Node.stay (Stay.of_below hb) _ _ _ h8).inS fun b hS _ => .inl hS) fun j y hj hy => ?_)
              rw [hu j hj] at hy; exact hy
    rcases h7 with ⟨rfl, h7⟩ | h7
    · refine (branch_set_n S (loc i d) p arr i x (slot i (d + 1)) d w hd (slot_eq i (d + 1)) (slot_lt i (d + 1)) h2 h3 hone h4 hc (ty d) (fn 93 103 d) rfl (disp_ty disp_set0 disp_set1 d) (fun w' => new_any S d w' (by omega))
        (fun w' q S' hq => set_any i x d S' w' q _ (by omega) hq)).mono fun e w' h => key e w' ?_
      obtain ⟨n, v', a1, a2, a3, a4, a5⟩ := h
      refine ⟨n, v', a1, a2, a3, Node.mono _ _ _ _ a4 (fun j y hj hy => ?_), a5⟩
      unfold upd at hy ⊢
      split
      · rename_i e; rw [if_pos e] at hy; exact hy
      · rename_i e; rw [if_neg e] at hy; have hy' : f (slot i (d + 1) * 32 ^ (d + 1) + j) = some y := hy; rw [h7 j hj] at hy'; cases hy'
    · obtain ⟨q, rfl⟩ := h7.ptr
      refine (branch_set_w S _ (loc i d) p arr i x (slot i (d + 1)) d w hd (slot_eq i (d + 1)) (slot_lt i (d + 1)) h2 h3 hone h4 q (ty d) (fn 93 103 d) hc (disp_ty disp_set0 disp_set1 d)
        (fun w' hb => set_any i x d _ w' q _ (by omega) (Node.stay (Stay.of_below hb) _ _ _ (h7.inS fun b h1 h2 => ⟨.inl h1, h2⟩)))).mono key

/-- a branch's children: none, or a node -/
def Kids (arr : Array Value) (t : Nat) : Prop := ∀ k, k < 32 → arr[1 + k]? = some .nilIface ∨ ∃ p, arr[1 + k]? = some (.iface t (.pointer (some ⟨p, 0, none⟩)))

set_option maxRecDepth 100000 in
set_option maxHeartbeats 800000 in
theorem branch_cb_w (b : Nat) (arr : Array Value) (i : Int) (j d t fid : Nat) (w : World) (hd : d < 12) (hb : bits BinOp.and IntKind.i64 (i / 2 ^ (d * 5)) 31 = j) (hj : j < 32)
    (hblk : w.heap[b]? = some (.cells arr 125 (0, 0))) (hc0 : arr[0]? = some (.int .u64 (d : Int))) (hk : Kids arr t) (h0 : Disp t fid "pub-frond/pub/immutable.containsBefore")
    (hcall : ∀ p, arr[1 + j]? = some (.iface t (.pointer (some ⟨p, 0, none⟩))) → Calls Try.prog fid #[.pointer (some ⟨p, 0, none⟩), .int .i64 i] w (SomeB w)) :
    Calls Try.prog 98 #[.pointer (some ⟨b, 0, none⟩), .int .i64 i] w (SomeB w) := by
  have hcell0 := cell_at hblk hc0
  obtain ⟨h1, h2, h3⟩ := h0
  have H4 := Lib.hid hcall; clear hcall
  have HK := Lib.hid hk; clear hk
  go_enter Try.func98, Try.ntmps98
  go_wp2_with fail
  go_loop [6] (fun v => ∃ k : Nat, k ≤ j ∧ v = .int .i64 k) (fun v => j - (intOf v).toNat)
  case atStart => exact ⟨0, Nat.zero_le _, rfl⟩
  case round =>
    obtain ⟨k, hkj, rfl⟩ := hrel
    by_cases hlt : k < j
    · rcases HK.out k (by omega) with hc | ⟨p, hc⟩
      · have hcc := cell_at hblk hc
        go_wp2
        go_round
        case rel => exact ⟨k + 1, by omega, by go_num⟩
        case measure => simp [intOf]; omega
      · have hcc := cell_at hblk hc
        go_wp2
        go_ret
        exact ⟨_, rfl, rfl⟩
    · rcases HK.out j hj with hc | ⟨p, hc⟩
      · have hcc := cell_at hblk hc
        go_wp2
        go_ret
        exact ⟨_, rfl, rfl⟩
      · have hcc := cell_at hblk hc
        go_wp2_with fail
        refine (H4.out p hc).mono ?_
        rintro e w' ⟨m, rfl, rfl⟩
        cases m
        · go_wp2
          go_ret
          exact ⟨_, rfl, rfl⟩
        · go_wp2
          go_ret
          exact ⟨_, rfl, rfl⟩

end Go.Proofs.Ytnahipfdnadccaa

namespace Go.Proofs.Ytnahipfdnadccaa
open Go.RowKit

set_option maxRecDepth 100000 in
set_option maxHeartbeats 800000 in
theorem branch_ca_w (b : Nat) (arr : Array Value) (i : Int) (j d t fid : Nat) (w : World) (hd : d < 12) (hb : bits BinOp.and IntKind.i64 (i / 2 ^ (d * 5)) 31 = j) (hj : j < 32)
    (hblk : w.heap[b]? = some (.cells arr 125 (0, 0))) (hc0 : arr[0]? = some (.int .u64 (d : Int))) (hk : Kids arr t) (h0 : Disp t fid "pub-frond/pub/immutable.containsAfter")
    (hcall : ∀ p, arr[1 + j]? = some (.iface t (.pointer (some ⟨p, 0, none⟩))) → Calls Try.prog fid #[.pointer (some ⟨p, 0, none⟩), .int .i64 i] w (SomeB w)) :
    Calls Try.prog 97 #[.pointer (some ⟨b, 0, none⟩), .int .i64 i] w (SomeB w) := by
  have hcell0 := cell_at hblk hc0
  obtain ⟨h1, h2, h3⟩ := h0
  have H4 := Lib.hid hcall; clear hcall
  have HK := Lib.hid hk; clear hk
  go_enter Try.func97, Try.ntmps97
  go_wp2_with fail
  go_loop [6] (fun v => ∃ k : Nat, k ≤ 32 ∧ v = .int .i64 k) (fun v => 32 - (intOf v).toNat)
  case atStart => exact ⟨j + 1, by omega, by go_num⟩
  case round =>
    obtain ⟨k, hkj, rfl⟩ := hrel
    by_cases hlt : k < 32
    · rcases HK.out k (by omega) with hc | ⟨p, hc⟩
      · have hcc := cell_at hblk hc
        go_wp2
        go_round
        case rel => exact ⟨k + 1, by omega, by go_num⟩
        case measure => simp [intOf]; omega
      · have hcc := cell_at hblk hc
        go_wp2
        go_ret
        exact ⟨_, rfl, rfl⟩
    · rcases HK.out j hj with hc | ⟨p, hc⟩
      · have hcc := cell_at hblk hc
        go_wp2
        go_ret
        exact ⟨_, rfl, rfl⟩
      · have hcc := cell_at hblk hc
        go_wp2_with fail
        refine (H4.out p hc).mono ?_
        rintro e w' ⟨m, rfl, rfl⟩
        cases m
        · go_wp2
          go_ret
          exact ⟨_, rfl, rfl⟩
        · go_wp2
          go_ret
          exact ⟨_, rfl, rfl⟩

/-- what a delete in a branch leaves: a branch that has the children from lo on and ahead of hi, and others or none of them; the child at j is deleted in -/
def BranchDel (S : Nat → Prop) (w : World) (b : Nat) (arr : Array Value) (j d lo hi : Nat) (g : Nat → Option Int) (e : Ending) (w' : World) : Prop :=
  ∃ (n : Nat) (arr' : Array Value), e = .returned (.iface 122 (.pointer (some ⟨n, 0, none⟩))) ∧ w'.heap[n]? = some (.cells arr' 125 (0, 0)) ∧ (n = b ∨ w.heap.size ≤ n) ∧ Below w.heap.size w w' ∧
    arr'.size = 33 ∧ arr'[0]? = arr[0]? ∧ (∀ k, k < 32 → k ≠ j → arr'[1 + k]? = arr[1 + k]? ∨ (¬ (lo ≤ k ∧ k < hi) ∧ arr'[1 + k]? = some .nilIface)) ∧
    (arr'[1 + j]? = arr[1 + j]? ∨ ∃ v', arr'[1 + j]? = some v' ∧ Node (New S w) w' d v' g)

/-- the cells of the new branch behind the copy -/
def kept (arr : Array Value) (d lo hi : Nat) : List Value := splice (zbranch (d + 1)) (1 + lo) ((arr.toList.drop (1 + lo)).take (hi - lo))
theorem kept_get {arr : Array Value} (d : Nat) {lo hi : Nat} (hs : arr.size = 33) (h1 : lo ≤ hi) (h2 : hi ≤ 32) (k : Nat) :
    (kept arr d lo hi).toArray[k]? = if 1 + lo ≤ k ∧ k < 1 + hi then arr[k]? else (zbranch (d + 1))[k]? := by
  unfold kept
  rw [splice_get _ _ _ _ _ (by omega) (by rw [zbranch_len]; omega)]
  by_cases h : 1 + lo ≤ k ∧ k < 1 + hi
  · rw [if_pos h, if_pos (by omega)]; congr 1; omega
  · rw [if_neg h, if_neg (by omega)]
theorem kept_size {arr : Array Value} (d : Nat) {lo hi : Nat} (hs : arr.size = 33) (h1 : lo ≤ hi) (h2 : hi ≤ 32) : (kept arr d lo hi).toArray.size = 33 :=
  splice_size _ _ _ _ _ (by omega) (by rw [zbranch_len]; omega)

theorem branch_del_nil {S : Nat → Prop} {w W : World} {b : Nat} {arr : Array Value} {j d lo hi : Nat} {g : Nat → Option Int} (hs : arr.size = 33) (hc0 : arr[0]? = some (.int .u64 ((d + 1 : Nat) : Int)))
    (h1 : lo ≤ j) (h2 : j < hi) (h3 : hi ≤ 32) (hZ : W.heap[w.heap.size]? = some (.cells (kept arr d lo hi).toArray 125 (0, 0))) (hB : Below w.heap.size w W) :
    BranchDel S w b arr j d lo hi g (.returned (.iface 122 (.pointer (some ⟨w.heap.size, 0, none⟩)))) W := by
  refine ⟨_, _, rfl, hZ, .inr (Nat.le_refl _), hB, kept_size d hs (by omega) h3, ?_, fun k hk hkj => ?_, .inl ?_⟩
  · rw [kept_get d hs (by omega) h3, if_neg (by omega), hc0]; rfl
  · rw [kept_get d hs (by omega) h3]
    by_cases h : 1 + lo ≤ 1 + k ∧ 1 + k < 1 + hi
    · rw [if_pos h]; exact .inl rfl
    · rw [if_neg h]; exact .inr ⟨by omega, zbranch_get (d + 1) k hk⟩
  · rw [kept_get d hs (by omega) h3, if_pos (by omega)]

theorem branch_del_set {S : Nat → Prop} {w W w' : World} {b : Nat} {arr : Array Value} {j d lo hi q : Nat} {g : Nat → Option Int} (hs : arr.size = 33) (hc0 : arr[0]? = some (.int .u64 ((d + 1 : Nat) : Int)))
    (h1 : lo ≤ j) (h2 : j < hi) (h3 : hi ≤ 32) (hZ : w'.heap[w.heap.size]? = some (.cells (kept arr d lo hi).toArray 125 (0, 0))) (hB : Below w.heap.size w W) (hsz : w.heap.size < W.heap.size)
    (hn : Node (New (fun b => New S w b ∧ b < w.heap.size) W.drew) w' d (.iface (ty d) (.pointer (some ⟨q, 0, none⟩))) g) (hb : Below W.drew.heap.size W.drew w') :
    BranchDel S w b arr j d lo hi g (.returned (.iface 122 (.pointer (some ⟨w.heap.size, 0, none⟩)))) (w'.setCell ⟨w.heap.size, 1 + j, none⟩ (.iface (ty d) (.pointer (some ⟨q, 0, none⟩)))) := by
  refine ⟨_, _, rfl, heap_setCell_same _ _ _ _ _ _ hZ, .inr (Nat.le_refl _), ?_, ?_, ?_, fun k hk hkj => ?_, .inr ⟨.iface (ty d) (.pointer (some ⟨q, 0, none⟩)), ?_, ?_⟩⟩
  · exact (hB.drew.trans (hb.mono (by show w.heap.size ≤ W.heap.size; omega))).setCell (Nat.le_refl _) _
  · rw [Array.size_setIfInBounds]; exact kept_size d hs (by omega) h3
  · rw [Array.getElem?_setIfInBounds_ne (by omega), kept_get d hs (by omega) h3, if_neg (by omega), hc0]; rfl
  · rw [Array.getElem?_setIfInBounds_ne (by omega), kept_get d hs (by omega) h3]
    by_cases h : 1 + lo ≤ 1 + k ∧ 1 + k < 1 + hi
    · rw [if_pos h]; exact .inl rfl
    · rw [if_neg h]; exact .inr ⟨by omega, zbranch_get (d + 1) k hk⟩
  · rw [Array.getElem?_setIfInBounds_self_of_lt (by rw [kept_size d hs (by omega) h3]; omega)]
  · refine Node.stayS (fun b c t hS hc _ => ?_) (fun b hS _ => ?_) _ _ _ hn
    · rw [heap_setCell_other]
      · exact hc
      · show b ≠ w.heap.size
        rcases hS with hS | hS
        · omega
        · have : W.heap.size ≤ b := hS
          omega
    · rcases hS with hS | hS
      · exact hS.1
      · have : W.heap.size ≤ b := hS
        exact .inr (by omega)

theorem size100 : (Try.prog.info? 100).map (·.size) = some 1 := by kernel_rfl

set_option maxRecDepth 100000 in
set_option maxHeartbeats 1600000 in
theorem branch_db_w (S : Nat → Prop) (g : Nat → Option Int) (b : Nat) (arr : Array Value) (i : Int) (j d : Nat) (w : World) (hd : d + 1 < 12) (hb : bits BinOp.and IntKind.i64 (i / 2 ^ ((d + 1) * 5)) 31 = j) (hj : j < 32)
    (hblk : w.heap[b]? = some (.cells arr 125 (0, 0))) (hs : arr.size = 33) (hone : arr.all (·.oneCell') = true) (hc0 : arr[0]? = some (.int .u64 ((d + 1 : Nat) : Int))) (hk : Kids arr (ty d)) (t fid : Nat) (ht : t = ty d)
    (h0 : Disp t fid "pub-frond/pub/immutable.deleteBefore")
    (hcb : Calls Try.prog 98 #[.pointer (some ⟨b, 0, none⟩), .int .i64 i] w (SomeB w))
    (hcall : ∀ p w', arr[1 + j]? = some (.iface t (.pointer (some ⟨p, 0, none⟩))) → Below w.heap.size w w' → Calls Try.prog fid #[.pointer (some ⟨p, 0, none⟩), .int .i64 i, .bool false] w' (DelPost (fun b => New S w b ∧ b < w.heap.size) w' d g)) :
    Calls Try.prog 100 #[.pointer (some ⟨b, 0, none⟩), .int .i64 i, .bool false] w (BranchDel S w b arr j d j 32 g) := by
  have hcell0 := cell_at hblk hc0
  obtain ⟨h1, h2, h3⟩ := h0
  have H4 := Lib.hid hcall; clear hcall
  have H5 := Lib.hid hcb; clear hcb
  have HT := Lib.hid ht; clear ht
  have HK := Lib.hid hk; clear hk
  go_enter Try.func100, Try.ntmps100
  go_wp2_with fail
  refine H5.out.mono ?_
  rintro e w' ⟨m, rfl, rfl⟩
  cases m
  · go_wp2
    go_ret
    exact ⟨b, arr, rfl, hblk, .inl rfl, Below.refl _ _, hs, rfl, fun k _ _ => .inl rfl, .inl rfl⟩
  · go_wp2
    change Code.wp _ _ _ _ (w.alloc (Obj.cells (zbranch (d + 1)).toArray 125))
    have hZ : Hid ((w.alloc (Obj.cells (zbranch (d + 1)).toArray 125)).heap[w.heap.size]? = some (.cells (zbranch (d + 1)).toArray 125 (0, 0))) := heap_alloc_last w _
    have hB : Below w.heap.size w (w.alloc (Obj.cells (zbranch (d + 1)).toArray 125)) := (Below.refl _ _).alloc (Nat.le_refl _) _
    generalize hW : w.alloc (Obj.cells (zbranch (d + 1)).toArray 125) = W at hZ hB ⊢
    clear hW
    have hsl1 := slice123_l w.heap.size 1 j hj
    have hsl2 := slice123_l b 1 j hj
    refine region_tail 12 (by kernel_rfl) (by kernel_rfl) ?_
    simp only [List.take_succ_cons, List.take_zero, List.drop_succ_cons, List.drop_zero]
    repeat still_step
    refine wpStill_nil ?_
    clear hsl1 hsl2
    have hcs := fun (k : Nat) (v : Value) (h : ((arr.toList.drop (1 + j)).take (32 - j))[k]? = some v) => (seg_get h).2
    refine wpList_copy_splice rfl (.tmp 47) (.tmp 53) 145 145 rfl 100 Try.underlying145 size100 _ _ _ _ _ _ rfl rfl w.heap.size (1 + j) (zbranch (d + 1)) 125 hZ ((arr.toList.drop (1 + j)).take (32 - j)) ?c1 ?c2 ?c3 ?c4 w.heap.size w hB.drew (Nat.le_refl _) ?_
    case c1 => rw [seg_len (by omega)]; exact (Nat.min_self _).symm
    case c2 =>
      intro _
      refine ⟨rfl, _, rfl, fun k v hv => ?_⟩
      rw [addr_add]
      exact (hB.drew.cell (p := ⟨b, 1 + j + k, none⟩) (lt_of_block hblk)).trans (cell_at hblk (hcs k v hv))
    case c3 => rw [seg_len (by omega), zbranch_len]; omega
    case c4 => exact seg_one hone
    clear hcs hZ hB W
    intro W hZ0 hB0
    have hZ : Hid (W.heap[w.heap.size]? = some (.cells (kept arr d j 32).toArray 125 (0, 0))) := hZ0
    have hB := Lib.hid hB0
    clear hZ0 hB0
    have hsz : Hid (w.heap.size < W.heap.size) := lt_of_block hZ.out
    have hget := kept_get (arr := arr) d (lo := j) (hi := 32) hs (by omega) (by omega) (1 + j)
    rw [if_pos (by omega)] at hget
    rcases HK.out j hj with hc | ⟨p, hc⟩
    · have hcj := cell_at hZ.out (hget.trans hc)
      clear hget
      go_wp2
      go_ret
      exact branch_del_nil hs hc0 (by omega) (by omega) (by omega) hZ.out hB.out
    · have hcj := cell_at hZ.out (hget.trans hc)
      rw [← HT.out] at hcj hc
      have hget2 := Lib.hid (hget.trans hc)
      have H6 : Hid (Calls Try.prog fid #[.pointer (some ⟨p, 0, none⟩), .int .i64 i, .bool false] W.drew (DelPost (fun b => New S w b ∧ b < w.heap.size) W.drew d g)) := H4.out p _ hc hB.out.drew
      clear hget
      go_wp2
      go_region_with (first | ((with_reducible refine H6.out.mono ?_); rintro e w' ⟨v', rfl, hn, hb⟩; obtain ⟨q, rfl⟩ := hn.ptr; have hz' := after_cell hZ hb; have hc' := cell_at hz' hget2.out; have hf' : w'.frozen? ⟨w.heap.size, 1 + j, none⟩ = false := frozen_of_row _ _ _ _ _ hz'; have HN := Lib.hid (And.intro hn hb); have HZ' := Lib.hid hz'; clear hn hb hz'))
      go_wp2
      go_ret
      exact branch_del_set hs hc0 (by omega) (by omega) (by omega) HZ'.out hB.out hsz.out HN.out.1 HN.out.2

end Go.Proofs.Ytnahipfdnadccaa

namespace Go.Proofs.Ytnahipfdnadccaa
open Go.RowKit

set_option maxRecDepth 100000 in
set_option maxHeartbeats 1600000 in
theorem branch_da_w (S : Nat → Prop) (g : Nat → Option Int) (b : Nat) (arr : Array Value) (i : Int) (j d : Nat) (w : World) (hd : d + 1 < 12) (hb : bits BinOp.and IntKind.i64 (i / 2 ^ ((d + 1) * 5)) 31 = j) (hj : j < 32)
    (hblk : w.heap[b]? = some (.cells arr 125 (0, 0))) (hs : arr.size = 33) (hone : arr.all (·.oneCell') = true) (hc0 : arr[0]? = some (.int .u64 ((d + 1 : Nat) : Int))) (hk : Kids arr (ty d)) (t fid : Nat) (ht : t = ty d)
    (h0 : Disp t fid "pub-frond/pub/immutable.deleteAfter")
    (hcb : Calls Try.prog 97 #[.pointer (some ⟨b, 0, none⟩), .int .i64 i] w (SomeB w))
    (hcall : ∀ p w', arr[1 + j]? = some (.iface t (.pointer (some ⟨p, 0, none⟩))) → Below w.heap.size w w' → Calls Try.prog fid #[.pointer (some ⟨p, 0, none⟩), .int .i64 i, .bool false] w' (DelPost (fun b => New S w b ∧ b < w.heap.size) w' d g)) :
    Calls Try.prog 99 #[.pointer (some ⟨b, 0, none⟩), .int .i64 i, .bool false] w (BranchDel S w b arr j d 0 (j + 1) g) := by
  have hcell0 := cell_at hblk hc0
  obtain ⟨h1, h2, h3⟩ := h0
  have H4 := Lib.hid hcall; clear hcall
  have H5 := Lib.hid hcb; clear hcb
  have HT := Lib.hid ht; clear ht
  have HK := Lib.hid hk; clear hk
  go_enter Try.func99, Try.ntmps99
  go_wp2_with fail
  refine H5.out.mono ?_
  rintro e w' ⟨m, rfl, rfl⟩
  cases m
  · go_wp2
    go_ret
    exact ⟨b, arr, rfl, hblk, .inl rfl, Below.refl _ _, hs, rfl, fun k _ _ => .inl rfl, .inl rfl⟩
  · go_wp2
    change Code.wp _ _ _ _ (w.alloc (Obj.cells (zbranch (d + 1)).toArray 125))
    have hZ : Hid ((w.alloc (Obj.cells (zbranch (d + 1)).toArray 125)).heap[w.heap.size]? = some (.cells (zbranch (d + 1)).toArray 125 (0, 0))) := heap_alloc_last w _
    have hB : Below w.heap.size w (w.alloc (Obj.cells (zbranch (d + 1)).toArray 125)) := (Below.refl _ _).alloc (Nat.le_refl _) _
    generalize hW : w.alloc (Obj.cells (zbranch (d + 1)).toArray 125) = W at hZ hB ⊢
    clear hW
    have hsl1 := slice123_h w.heap.size 1 j hj
    have hsl2 := slice123_h b 1 j hj
    have hw1 : IntKind.i64.wrap ((j : Int) + 1) = (j : Int) + 1 := by rw [IntKind.wrap_i64]; omega
    refine region_tail 12 (by kernel_rfl) (by kernel_rfl) ?_
    simp only [List.take_succ_cons, List.take_zero, List.drop_succ_cons, List.drop_zero]
    repeat still_step
    refine wpStill_nil ?_
    clear hsl1 hsl2 hw1
    have hcs := fun (k : Nat) (v : Value) (h : ((arr.toList.drop (1 + 0)).take (j + 1 - 0))[k]? = some v) => (seg_get h).2
    refine wpList_copy_splice rfl (.tmp 48) (.tmp 54) 145 145 rfl 100 Try.underlying145 size100 _ _ _ _ _ _ rfl rfl w.heap.size (1 + 0) (zbranch (d + 1)) 125 hZ ((arr.toList.drop (1 + 0)).take (j + 1 - 0)) ?c1 ?c2 ?c3 ?c4 w.heap.size w hB.drew (Nat.le_refl _) ?_
    case c1 => rw [seg_len (by omega)]; exact (Nat.min_self _).symm
    case c2 =>
      intro _
      refine ⟨rfl, _, rfl, fun k v hv => ?_⟩
      rw [addr_add]
      exact (hB.drew.cell (p := ⟨b, 1 + 0 + k, none⟩) (lt_of_block hblk)).trans (cell_at hblk (hcs k v hv))
    case c3 => rw [seg_len (by omega), zbranch_len]; omega
    case c4 => exact seg_one hone
    clear hcs hZ hB W
    intro W hZ0 hB0
    have hZ : Hid (W.heap[w.heap.size]? = some (.cells (kept arr d 0 (j + 1)).toArray 125 (0, 0))) := hZ0
    have hB := Lib.hid hB0
    clear hZ0 hB0
    have hsz : Hid (w.heap.size < W.heap.size) := lt_of_block hZ.out
    have hget := kept_get (arr := arr) d (lo := 0) (hi := j + 1) hs (by omega) (by omega) (1 + j)
    rw [if_pos (by omega)] at hget
    rcases HK.out j hj with hc | ⟨p, hc⟩
    · have hcj := cell_at hZ.out (hget.trans hc)
      clear hget
      go_wp2
      go_ret
      exact branch_del_nil hs hc0 (by omega) (by omega) (by omega) hZ.out hB.out
    · have hcj := cell_at hZ.out (hget.trans hc)
      rw [← HT.out] at hcj hc
      have hget2 := Lib.hid (hget.trans hc)
      have H6 : Hid (Calls Try.prog fid #[.pointer (some ⟨p, 0, none⟩), .int .i64 i, .bool false] W.drew (DelPost (fun b => New S w b ∧ b < w.heap.size) W.drew d g)) := H4.out p _ hc hB.out.drew
      clear hget
      go_wp2
      go_region_with (first | ((with_reducible refine H6.out.mono ?_); rintro e w' ⟨v', rfl, hn, hb⟩; obtain ⟨q, rfl⟩ := hn.ptr; have hz' := after_cell hZ hb; have hc' := cell_at hz' hget2.out; have hf' : w'.frozen? ⟨w.heap.size, 1 + j, none⟩ = false := frozen_of_row _ _ _ _ _ hz'; have HN := Lib.hid (And.intro hn hb); have HZ' := Lib.hid hz'; clear hn hb hz'))
      go_wp2
      go_ret
      exact branch_del_set hs hc0 (by omega) (by omega) (by omega) HZ'.out hB.out hsz.out HN.out.1 HN.out.2

theorem kids_of {S : Nat → Prop} {w : World} {d : Nat} {arr : Array Value} {f : Nat → Option Int}
    (h5 : ∀ k, k < 32 → ∃ c, arr[1 + k]? = some c ∧ ((c = .nilIface ∧ ∀ j, j < 32 ^ (d + 1) → f (k * 32 ^ (d + 1) + j) = none) ∨ Node S w d c (fun j => f (k * 32 ^ (d + 1) + j)))) : Kids arr (ty d) := fun k hk => by
  obtain ⟨c, hc, h⟩ := h5 k hk
  rcases h with ⟨rfl, _⟩ | h
  · exact .inl hc
  · obtain ⟨p, rfl⟩ := h.ptr; exact .inr ⟨p, hc⟩

/-- the child at k, where it is a node -/
theorem kid_at {S : Nat → Prop} {w : World} {d p k : Nat} {arr : Array Value} {f : Nat → Option Int}
    (h5 : ∀ k, k < 32 → ∃ c, arr[1 + k]? = some c ∧ ((c = .nilIface ∧ ∀ j, j < 32 ^ (d + 1) → f (k * 32 ^ (d + 1) + j) = none) ∨ Node S w d c (fun j => f (k * 32 ^ (d + 1) + j)))) (hk : k < 32)
    {t : Nat} (h : arr[1 + k]? = some (.iface t (.pointer (some ⟨p, 0, none⟩)))) : Node S w d (.iface (ty d) (.pointer (some ⟨p, 0, none⟩))) (fun j => f (k * 32 ^ (d + 1) + j)) := by
  obtain ⟨c, hc, h7⟩ := h5 k hk
  rw [h] at hc
  obtain rfl := Option.some.inj hc
  rcases h7 with ⟨h7, _⟩ | h7
  · cases h7
  · obtain ⟨q, hq⟩ := h7.ptr
    simp only [Value.iface.injEq] at hq
    rw [← hq.1]; exact h7

theorem cb_any {S : Nat → Prop} {w : World} (hg : Glob w) (i : Int) : ∀ (d : Nat) (p : Nat) (f : Nat → Option Int), d < 12 → Node S w d (.iface (ty d) (.pointer (some ⟨p, 0, none⟩))) f →
    Calls Try.prog (fn 88 98 d) #[.pointer (some ⟨p, 0, none⟩), .int .i64 i] w (SomeB w)
  | 0, p, f, _, ⟨b, arr, occ, h1, h2, h3, h4, h5, h6, h7, h8⟩ => by
    simp only [Value.iface.injEq, Value.pointer.injEq, Option.some.injEq, Addr.mk.injEq, and_true] at h1
    obtain ⟨_, h1⟩ := h1
    subst h1
    exact leaf_cb_w p i occ w hg (cell_at h2 h4)
  | d + 1, p, f, hd, ⟨b, arr, h1, h2, h3, h4, h5, h6⟩ => by
    simp only [Value.iface.injEq, Value.pointer.injEq, Option.some.injEq, Addr.mk.injEq, and_true] at h1
    obtain ⟨_, h1⟩ := h1
    subst h1
    exact branch_cb_w p arr i (slot i (d + 1)) (d + 1) (ty d) (fn 88 98 d) w hd (slot_eq i (d + 1)) (slot_lt i (d + 1)) h2 h4 (kids_of h5) (disp_ty disp_containsBefore0 disp_containsBefore1 d)
      fun q hq => cb_any hg i d q _ (by omega) (kid_at h5 (slot_lt i (d + 1)) hq)

theorem ca_any {S : Nat → Prop} {w : World} (i : Int) : ∀ (d : Nat) (p : Nat) (f : Nat → Option Int), d < 12 → Node S w d (.iface (ty d) (.pointer (some ⟨p, 0, none⟩))) f →
    Calls Try.prog (fn 87 97 d) #[.pointer (some ⟨p, 0, none⟩), .int .i64 i] w (SomeB w)
  | 0, p, f, _, ⟨b, arr, occ, h1, h2, h3, h4, h5, h6, h7, h8⟩ => by
    simp only [Value.iface.injEq, Value.pointer.injEq, Option.some.injEq, Addr.mk.injEq, and_true] at h1
    obtain ⟨_, h1⟩ := h1
    subst h1
    exact leaf_ca_w p i occ w h5 h6 (cell_at h2 h4)
  | d + 1, p, f, hd, ⟨b, arr, h1, h2, h3, h4, h5, h6⟩ => by
    simp only [Value.iface.injEq, Value.pointer.injEq, Option.some.injEq, Addr.mk.injEq, and_true] at h1
    obtain ⟨_, h1⟩ := h1
    subst h1
    exact branch_ca_w p arr i (slot i (d + 1)) (d + 1) (ty d) (fn 87 97 d) w hd (slot_eq i (d + 1)) (slot_lt i (d + 1)) h2 h4 (kids_of h5) (disp_ty disp_containsAfter0 disp_containsAfter1 d)
      fun q hq => ca_any i d q _ (by omega) (kid_at h5 (slot_lt i (d + 1)) hq)

/-- a delete in a branch, in words of nodes: what is asked of the new node lies within what was there -/
theorem BranchDel.node {S : Nat → Prop} {w : World} {b : Nat} {arr : Array Value} {j d lo hi : Nat} {f g gj : Nat → Option Int} {e : Ending} {w' : World} (h : BranchDel S w b arr j d lo hi gj e w') (hS : S b)
    (h4 : arr[0]? = some (.int .u64 ((d + 1 : Nat) : Int))) (h5 : ∀ k, k < 32 → ∃ c, arr[1 + k]? = some c ∧ ((c = .nilIface ∧ ∀ j, j < 32 ^ (d + 1) → f (k * 32 ^ (d + 1) + j) = none) ∨ Node S w d c (fun j => f (k * 32 ^ (d + 1) + j))))
    (hg : ∀ k y, g k = some y → f k = some y) (hout : ∀ k l, k < 32 → k ≠ j → ¬ (lo ≤ k ∧ k < hi) → l < 32 ^ (d + 1) → g (k * 32 ^ (d + 1) + l) = none)
    (hj : ∀ l y, l < 32 ^ (d + 1) → g (j * 32 ^ (d + 1) + l) = some y → gj l = some y) : DelPost S w (d + 1) g e w' := by
  obtain ⟨n, arr', rfl, hz, hn, hb, hs, h0, hk, hjj⟩ := h
  refine ⟨_, rfl, ⟨n, arr', rfl, hz, hs, h0.trans h4, fun k hlt => ?_, by rcases hn with h | h; exact .inl (h ▸ hS); exact .inr h⟩, hb⟩
  have old : arr'[1 + k]? = arr[1 + k]? → ∃ c, arr'[1 + k]? = some c ∧ ((c = .nilIface ∧ ∀ j, j < 32 ^ (d + 1) → g (k * 32 ^ (d + 1) + j) = none) ∨ Node (New S w) w' d c (fun j => g (k * 32 ^ (d + 1) + j))) := fun he => by
    obtain ⟨c, hc, h7⟩ := h5 k hlt
    refine ⟨c, he.trans hc, ?_⟩
    rcases h7 with ⟨h7, h8⟩ | h7
    · refine .inl ⟨h7, fun l hl => ?_⟩
      cases hv : g (k * 32 ^ (d + 1) + l) with
      | none => rfl
      | some y => have := hg _ _ hv; rw [h8 l hl] at this; cases this
    · exact .inr (Node.mono _ _ _ _ ((Node.stay (Stay.of_below hb) _ _ _ h7).inS fun _ h _ => .inl h) fun l y _ hy => hg _ _ hy)
  by_cases e : k = j
  · subst e
    rcases hjj with h | ⟨v', hv, hnode⟩
    · exact old h
    · exact ⟨v', hv, .inr (Node.mono _ _ _ _ hnode fun l y hl hy => hj l y hl hy)⟩
  · rcases hk k hlt e with h | ⟨h, hnil⟩
    · exact old h
    · exact ⟨_, hnil, .inl ⟨rfl, fun l hl => hout k l hlt e h hl⟩⟩

theorem mul_mono_lt {k s M l r : Nat} (h : k < s) (hl : l < M) : k * M + l < s * M + r := by
  have : (k + 1) * M ≤ s * M := Nat.mul_le_mul_right _ h
  rw [Nat.add_mul, Nat.one_mul] at this
  omega

theorem db_any (i : Int) : ∀ (d : Nat) (S : Nat → Prop) (w : World) (p : Nat) (f : Nat → Option Int), Glob w → d < 12 → Node S w d (.iface (ty d) (.pointer (some ⟨p, 0, none⟩))) f →
    Calls Try.prog (fn 90 100 d) #[.pointer (some ⟨p, 0, none⟩), .int .i64 i, .bool false] w (DelPost S w d (before i d f))
  | 0, S, w, p, f, hg, _, h => leaf_db i hg h
  | d + 1, S, w, p, f, hg, hd, hN => by
    have hcb := cb_any hg i (d + 1) p f hd hN
    obtain ⟨b, arr, h1, h2, h3, h4, h5, h6⟩ := hN
    simp only [Value.iface.injEq, Value.pointer.injEq, Option.some.injEq, Addr.mk.injEq, and_true] at h1
    obtain ⟨_, h1⟩ := h1
    subst h1
    refine (branch_db_w S (before i d (fun j => f (slot i (d + 1) * 32 ^ (d + 1) + j))) p arr i (slot i (d + 1)) d w hd (slot_eq i (d + 1)) (slot_lt i (d + 1)) h2 h3 (branch_one h3 h4 h5) h4 (kids_of h5) (ty d) (fn 90 100 d) rfl (disp_ty disp_deleteBefore0 disp_deleteBefore1 d) hcb
      (fun q w' hq hb => db_any i d _ w' q _ (hg.stay (Stay.of_below hb)) (by omega) (Node.stay (Stay.of_below hb) _ _ _ ((kid_at h5 (slot_lt i (d + 1)) hq).inS fun b h1 h2 => ⟨.inl h1, h2⟩)))).mono fun e w' h => ?_
    refine h.node h6 h4 h5 (fun k y hy => ?_) (fun k l hk hkj hno hl => ?_) (fun l y hl hy => ?_)
    · unfold before at hy; split at hy
      · exact hy
      · cases hy
    · unfold before
      rw [if_neg]
      rw [loc_succ]
      have := mul_mono_lt (r := loc i d) (show k < slot i (d + 1) by omega) hl
      omega
    · unfold before at hy ⊢
      rw [loc_succ] at hy
      split at hy
      · rw [if_pos (by omega)]; exact hy
      · cases hy

theorem da_any (i : Int) : ∀ (d : Nat) (S : Nat → Prop) (w : World) (p : Nat) (f : Nat → Option Int), d < 12 → Node S w d (.iface (ty d) (.pointer (some ⟨p, 0, none⟩))) f →
    Calls Try.prog (fn 89 99 d) #[.pointer (some ⟨p, 0, none⟩), .int .i64 i, .bool false] w (DelPost S w d (behind i d f))
  | 0, S, w, p, f, _, h => leaf_da i h
  | d + 1, S, w, p, f, hd, hN => by
    have hca := ca_any i (d + 1) p f hd hN
    obtain ⟨b, arr, h1, h2, h3, h4, h5, h6⟩ := hN
    simp only [Value.iface.injEq, Value.pointer.injEq, Option.some.injEq, Addr.mk.injEq, and_true] at h1
    obtain ⟨_, h1⟩ := h1
    subst h1
    refine (branch_da_w S (behind i d (fun j => f (slot i (d + 1) * 32 ^ (d + 1) + j))) p arr i (slot i (d + 1)) d w hd (slot_eq i (d + 1)) (slot_lt i (d + 1)) h2 h3 (branch_one h3 h4 h5) h4 (kids_of h5) (ty d) (fn 89 99 d) rfl (disp_ty disp_deleteAfter0 disp_deleteAfter1 d) hca
      (fun q w' hq hb => da_any i d _ w' q _ (by omega) (Node.stay (Stay.of_below hb) _ _ _ ((kid_at h5 (slot_lt i (d + 1)) hq).inS fun b h1 h2 => ⟨.inl h1, h2⟩)))).mono fun e w' h => ?_
    refine h.node h6 h4 h5 (fun k y hy => ?_) (fun k l hk hkj hno hl => ?_) (fun l y hl hy => ?_)
    · unfold behind at hy; split at hy
      · exact hy
      · cases hy
    · unfold behind
      rw [if_neg]
      rw [loc_succ]
      have := mul_mono_lt (r := l) (show slot i (d + 1) < k by omega) (loc_lt i d)
      omega
    · unfold behind at hy ⊢
      rw [loc_succ] at hy
      split at hy
      · rw [if_pos (by omega)]; exact hy
      · cases hy

end Go.Proofs.Ytnahipfdnadccaa
