/- The walks over a leaf: delete behind a place (as a copy); a new node; a node's depth. -/
import Derived.Test.YtnahipfdnadccaaLeafB
namespace Go.Proofs.Ytnahipfdnadccaa
open Go.RowKit

set_option maxRecDepth 100000 in
set_option maxHeartbeats 800000 in
theorem leaf_da_w (b : Nat) (arr : Array Value) (occ i : Int) (j : Nat) (w : World) (hb : bits BinOp.and IntKind.i64 i 31 = j) (hj : j < 32)
    (hblk : w.heap[b]? = some (.cells arr 110 (0, 0))) (hs : arr.size = 33) (hone : arr.all (·.oneCell') = true) (ho : arr[32]? = some (.int .u32 occ)) (h0 : 0 ≤ occ ∧ occ < 4294967296) :
    Calls Try.prog 89 #[.pointer (some ⟨b, 0, none⟩), .int .i64 i, .bool false] w (DelLeaf w b arr 0 (j + 1)) := by
  have hc := cell_at hblk ho
  have H0 := Lib.hid h0
  clear h0
  go_enter Try.func89, Try.ntmps89
  go_wp2_with fail
  refine (leaf_ca_w b i occ _ H0.out.1 H0.out.2 hc).mono ?_
  rintro e w' ⟨m, rfl, rfl⟩
  cases m
  · go_wp2
    go_ret
    exact ⟨b, arr, occ, rfl, hblk, hs, ho, H0.out.1, H0.out.2, fun k hk => ⟨fun _ => rfl, fun _ => .inr rfl⟩, Below.refl _ _, .inl rfl⟩
  · go_wp2
    change Code.wp _ _ _ _ (w.alloc (Obj.cells (zleaf occ).toArray 110))
    have hZ : Hid ((w.alloc (Obj.cells (zleaf occ).toArray 110)).heap[w.heap.size]? = some (.cells (zleaf occ).toArray 110 (0, 0))) := heap_alloc_last w _
    have hB : Below w.heap.size w (w.alloc (Obj.cells (zleaf occ).toArray 110)) := (Below.refl _ _).alloc (Nat.le_refl _) _
    generalize hW : w.alloc (Obj.cells (zleaf occ).toArray 110) = W at hZ hB ⊢
    clear hW
    have hsl1 := slice107_h w.heap.size 0 j hj
    have hsl2 := slice107_h b 0 j hj
    have hw1 : IntKind.i64.wrap ((j : Int) + 1) = (j : Int) + 1 := by rw [IntKind.wrap_i64]; omega
    refine region_tail 14 (by kernel_rfl) (by kernel_rfl) ?_
    simp only [List.take_succ_cons, List.take_zero, List.drop_succ_cons, List.drop_zero]
    repeat still_step
    refine wpStill_nil ?_
    clear hsl1 hsl2 hw1
    have hcs := fun (k : Nat) (v : Value) (h : ((arr.toList.drop 0).take (j + 1))[k]? = some v) => (seg_get h).2
    refine wpList_copy_splice rfl (.tmp 45) (.tmp 52) 32 32 rfl 2 Try.underlying32 size2 _ _ _ _ _ _ rfl rfl w.heap.size 0 (zleaf occ) 110 hZ ((arr.toList.drop 0).take (j + 1)) ?c1 ?c2 ?c3 ?c4 w.heap.size w hB.drew (Nat.le_refl _) ?_
    case c1 => rw [seg_len (by omega)]; exact (Nat.min_self _).symm
    case c2 =>
      intro _
      refine ⟨rfl, _, rfl, fun k v hv => ?_⟩
      rw [addr_add]
      exact (hB.drew.cell (p := ⟨b, 0 + k, none⟩) (lt_of_block hblk)).trans (cell_at hblk (hcs k v hv))
    case c3 => rw [seg_len (by omega), zleaf_len]; omega
    case c4 => exact seg_one hone
    clear hcs hZ hB W
    intro W hZ hB
    have hc32 : W.cell? ⟨w.heap.size, 32, none⟩ = some (.int .u32 occ) := by
      refine cell_at hZ.out ?_
      rw [splice_get _ _ _ _ _ (by omega) (by rw [zleaf_len]; omega), if_neg (by omega)]
      exact zleaf_last occ
    have hf32 : W.frozen? ⟨w.heap.size, 32, none⟩ = false := frozen_of_row _ _ _ _ _ hZ.out
    have HB := Lib.hid hB
    clear hB
    have hsg : IntKind.u32.signed = false := rfl
    go_wp2
    have hw1 : IntKind.i64.wrap ((j : Int) + 1) = (j : Int) + 1 := by rw [IntKind.wrap_i64]; omega
    have hw2 : 0 ≤ (j : Int) + 1 := by omega
    have hw3 : ((j : Int) + 1).toNat = j + 1 := by omega
    refine region_tail 11 (by kernel_rfl) (by kernel_rfl) ?_
    simp only [List.take_succ_cons, List.take_zero, List.drop_succ_cons, List.drop_zero]
    repeat still_step
    refine wpStill_nil ?_
    clear hw1 hw2 hw3
    go_wp2
    go_ret
    exact del_leaf_end hs (by omega) (by omega) hZ.out HB.out (u32_and occ _)

/-- the post of a delete, in words of nodes -/
def DelPost (S : Nat → Prop) (w : World) (d : Nat) (g : Nat → Option Int) (e : Ending) (w' : World) : Prop :=
  ∃ v', e = .returned v' ∧ Node (New S w) w' d v' g ∧ Below w.heap.size w w'

theorem DelLeaf.node {S : Nat → Prop} {w : World} {b : Nat} {arr : Array Value} {lo hi : Nat} {f : Nat → Option Int} {e : Ending} {w' : World} (h : DelLeaf w b arr lo hi e w')
    (h7 : ∀ k, k < 32 → ∃ x, arr[k]? = some (.int .i64 x) ∧ ∀ y, f k = some y → y = x) (hS : S b) : DelPost S w 0 (fun k => if lo ≤ k ∧ k < hi then f k else none) e w' := by
  obtain ⟨n, arr', occ', h1, h2, h3, h4, h5, h6, h8, h9, h10⟩ := h
  refine ⟨_, h1, ⟨n, arr', occ', rfl, h2, h3, h4, h5, h6, fun k hk => ?_, by rcases h10 with h | h; exact .inl (h ▸ hS); exact .inr h⟩, h9⟩
  obtain ⟨x, hx, hy⟩ := h7 k hk
  by_cases hc : lo ≤ k ∧ k < hi
  · refine ⟨x, ((h8 k hk).1 hc).trans hx, fun y hg => ?_⟩
    simp only [if_pos hc] at hg
    exact hy y hg
  · rcases (h8 k hk).2 hc with h | h
    · exact ⟨0, h, fun y hg => by simp only [if_neg hc] at hg; cases hg⟩
    · exact ⟨x, h.trans hx, fun y hg => by simp only [if_neg hc] at hg; cases hg⟩

def before (i : Int) (d : Nat) (f : Nat → Option Int) (k : Nat) : Option Int := if loc i d ≤ k then f k else none
def behind (i : Int) (d : Nat) (f : Nat → Option Int) (k : Nat) : Option Int := if k ≤ loc i d then f k else none

theorem leaf_db {S : Nat → Prop} {w : World} {p : Nat} {f : Nat → Option Int} (i : Int) (hg : Glob w) (h : Node S w 0 (.iface 111 (.pointer (some ⟨p, 0, none⟩))) f) :
    Calls Try.prog 90 #[.pointer (some ⟨p, 0, none⟩), .int .i64 i, .bool false] w (DelPost S w 0 (before i 0 f)) := by
  obtain ⟨b, arr, occ, h1, h2, h3, h4, h5, h6, h7, h8⟩ := h
  simp only [Value.iface.injEq, Value.pointer.injEq, Option.some.injEq, Addr.mk.injEq, true_and, and_true] at h1
  subst h1
  refine (leaf_db_w p arr occ i (slot i 0) w hg (slot0 i) (slot_lt i 0) h2 h3 (leaf_one h3 h4 h7) h4 ⟨h5, h6⟩).mono fun e w' h => ?_
  obtain ⟨v', a, b, c⟩ := h.node h7 h8
  exact ⟨v', a, b.mono _ _ _ _ (fun j y hj hy => by unfold before at hy; rw [loc0] at hy; split at hy <;> simp_all), c⟩

theorem leaf_da {S : Nat → Prop} {w : World} {p : Nat} {f : Nat → Option Int} (i : Int) (h : Node S w 0 (.iface 111 (.pointer (some ⟨p, 0, none⟩))) f) :
    Calls Try.prog 89 #[.pointer (some ⟨p, 0, none⟩), .int .i64 i, .bool false] w (DelPost S w 0 (behind i 0 f)) := by
  obtain ⟨b, arr, occ, h1, h2, h3, h4, h5, h6, h7, h8⟩ := h
  simp only [Value.iface.injEq, Value.pointer.injEq, Option.some.injEq, Addr.mk.injEq, true_and, and_true] at h1
  subst h1
  refine (leaf_da_w p arr occ i (slot i 0) w (slot0 i) (slot_lt i 0) h2 h3 (leaf_one h3 h4 h7) h4 ⟨h5, h6⟩).mono fun e w' h => ?_
  obtain ⟨v', a, b, c⟩ := h.node h7 h8
  refine ⟨v', a, b.mono _ _ _ _ (fun j y hj hy => ?_), c⟩
  unfold behind at hy
  rw [loc0] at hy
  split at hy
  · rw [if_pos (by omega)]; exact hy
  · cases hy

/-- the cells of a new branch -/
def zbranch (d : Nat) : List Value := [.int .u64 (d : Int), .nilIface, .nilIface, .nilIface, .nilIface, .nilIface, .nilIface, .nilIface, .nilIface, .nilIface, .nilIface, .nilIface, .nilIface, .nilIface, .nilIface, .nilIface, .nilIface, .nilIface, .nilIface, .nilIface, .nilIface, .nilIface, .nilIface, .nilIface, .nilIface, .nilIface, .nilIface, .nilIface, .nilIface, .nilIface, .nilIface, .nilIface, .nilIface]
theorem zbranch_len (d : Nat) : (zbranch d).length = 33 := rfl
theorem zbranch_get (d : Nat) : ∀ k, k < 32 → (zbranch d)[1 + k]? = some .nilIface := by
  intro k hk
  have : ∀ k : Fin 32, (zbranch d)[1 + k.val]? = some .nilIface := by
    intro k
    rcases k with ⟨k, hk⟩
    iterate 32 (rcases k with _ | k; · rfl)
    omega
  exact this ⟨k, hk⟩

/-- a new node is a node of nothing -/
theorem new_leaf (S : Nat → Prop) (w : World) (B : Nat) (h : B = w.heap.size) : Node (New S w) (w.alloc (Obj.cells (zleaf 0).toArray 110)) 0 (.iface 111 (.pointer (some ⟨B, 0, none⟩))) (fun _ => none) := by
  subst h
  refine ⟨_, _, 0, rfl, heap_alloc_last w _, by rw [List.size_toArray, zleaf_len], by rw [List.getElem?_toArray]; rfl, by omega, by omega, fun k hk => ⟨0, by rw [List.getElem?_toArray]; exact zleaf_get 0 k hk, fun y hy => by cases hy⟩, .inr (Nat.le_refl _)⟩
theorem new_branch (S : Nat → Prop) (w : World) (d B : Nat) (h : B = w.heap.size) : Node (New S w) (w.alloc (Obj.cells (zbranch (d + 1)).toArray 125)) (d + 1) (.iface 122 (.pointer (some ⟨B, 0, none⟩))) (fun _ => none) := by
  subst h
  refine ⟨_, _, rfl, heap_alloc_last w _, by rw [List.size_toArray, zbranch_len], by rw [List.getElem?_toArray]; rfl, fun k hk => ⟨_, by rw [List.getElem?_toArray]; exact zbranch_get (d + 1) k hk, .inl ⟨rfl, fun _ _ => rfl⟩⟩, .inr (Nat.le_refl _)⟩

set_option maxRecDepth 100000 in
set_option maxHeartbeats 400000 in
theorem new_w0 (S : Nat → Prop) (w : World) : Calls Try.prog 104 #[.int .u64 0] w (DelPost S w 0 (fun _ => none)) := by
  go_enter Try.func104, Try.ntmps104
  go_wp2
  go_ret
  exact ⟨_, rfl, new_leaf S w _ rfl, (Below.refl _ _).alloc (Nat.le_refl _) _⟩

set_option maxRecDepth 100000 in
set_option maxHeartbeats 400000 in
theorem new_w1 (S : Nat → Prop) (d : Nat) (w : World) (hd : d < 12) : Calls Try.prog 104 #[.int .u64 ((d : Int) + 1)] w (DelPost S w (d + 1) (fun _ => none)) := by
  have h : ((d : Int) + 1 == 0) = false := by simp; omega
  go_enter Try.func104, Try.ntmps104
  go_wp2
  go_ret
  exact ⟨_, rfl, new_branch S w d _ rfl, (Below.refl _ _).alloc (Nat.le_refl _) _⟩

set_option maxRecDepth 100000 in
set_option maxHeartbeats 400000 in
theorem depth_w0 (a : Addr) (w : World) : Calls Try.prog 91 #[.pointer (some a)] w fun e w' => e = .returned (.int .u64 0) ∧ w = w' := by
  go_enter Try.func91, Try.ntmps91
  go_wp2
  go_ret
  exact ⟨rfl, rfl⟩

set_option maxRecDepth 100000 in
set_option maxHeartbeats 400000 in
theorem depth_w1 (b : Nat) (d : Int) (w : World) (hc : w.cell? ⟨b, 0, none⟩ = some (.int .u64 d)) : Calls Try.prog 101 #[.pointer (some ⟨b, 0, none⟩)] w fun e w' => e = .returned (.int .u64 d) ∧ w = w' := by
  go_enter Try.func101, Try.ntmps101
  go_wp2
  go_ret
  exact ⟨rfl, rfl⟩

theorem depth_any {S : Nat → Prop} {w : World} {p d : Nat} {f : Nat → Option Int} (h : Node S w d (.iface (ty d) (.pointer (some ⟨p, 0, none⟩))) f) :
    Calls Try.prog (fn 91 101 d) #[.pointer (some ⟨p, 0, none⟩)] w fun e w' => e = .returned (.int .u64 (d : Int)) ∧ w = w' := by
  cases d with
  | zero => exact depth_w0 _ w
  | succ d =>
    obtain ⟨b, arr, h1, h2, h3, h4, h5, h6⟩ := h
    simp only [Value.iface.injEq, Value.pointer.injEq, Option.some.injEq, Addr.mk.injEq, and_true] at h1
    obtain ⟨_, h1⟩ := h1
    subst h1
    exact depth_w1 p _ w (cell_at h2 h4)

end Go.Proofs.Ytnahipfdnadccaa
