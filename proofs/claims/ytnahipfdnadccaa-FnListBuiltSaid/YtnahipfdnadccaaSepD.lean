/- nodes whose children share no block, and set in place at a node of whatever depth. Conditions of this file: none.

set in place at a node of whatever depth. Conditions of this file: none.

append in place where the tree grows. Conditions of this file: none.

append in place to a list whose blocks are the call's own; NewList of any values. Conditions of this file: none. -/
import Derived.Test.YtnahipfdnadccaaCap
import Derived.Test.YtnahipfdnadccaaListG
import Derived.Test.YtnahipfdnadccaaEqual
namespace Go.Proofs.Ytnahipfdnadccaa
open Go.RowKit

/-- v is a node of depth d, all of it in blocks of S, and no block of it lies on two ways -/
def SNode (w : World) : Nat → (Nat → Prop) → Value → (Nat → Option Int) → Prop
  | 0, S, v, f => Leaf S w v f
  | d + 1, S, v, f => ∃ (b : Nat) (arr : Array Value) (T : Nat → Nat → Prop), v = .iface 122 (.pointer (some ⟨b, 0, none⟩)) ∧ w.heap[b]? = some (.cells arr 125 (0, 0)) ∧ arr.size = 33 ∧
    arr[0]? = some (.int .u64 ((d + 1 : Nat) : Int)) ∧ (∀ k, k < 32 → ∃ c, arr[1 + k]? = some c ∧
      ((c = .nilIface ∧ ∀ j, j < 32 ^ (d + 1) → f (k * 32 ^ (d + 1) + j) = none) ∨ SNode w d (T k) c (fun j => f (k * 32 ^ (d + 1) + j)))) ∧ S b ∧
    (∀ k x, T k x → S x ∧ x ≠ b) ∧ (∀ k k' x, k ≠ k' → T k x → ¬ T k' x)

theorem SNode.node {w : World} : ∀ (d : Nat) (S : Nat → Prop) (v : Value) (f : Nat → Option Int), SNode w d S v f → Node S w d v f
  | 0, _, _, _, h => h
  | d + 1, S, v, f, ⟨b, arr, T, h1, h2, h3, h4, h5, h6, h7, _⟩ => ⟨b, arr, h1, h2, h3, h4, fun k hk => by
      obtain ⟨c, hc, h⟩ := h5 k hk
      refine ⟨c, hc, ?_⟩
      rcases h with h | h
      · exact .inl h
      · exact .inr ((SNode.node d (T k) c _ h).inS fun x hx _ => (h7 k x hx).1), h6⟩

theorem SNode.ptr {w : World} {d : Nat} {S : Nat → Prop} {v : Value} {f : Nat → Option Int} (h : SNode w d S v f) : ∃ p, v = .iface (ty d) (.pointer (some ⟨p, 0, none⟩)) := h.node.ptr

/-- a separated node stays where its blocks stay -/
theorem SNode.keep {w w' : World} : ∀ (d : Nat) (S S' : Nat → Prop) (v : Value) (f : Nat → Option Int), (∀ (b : Nat) (c : Array Value) (t : TypeId), S b → w.heap[b]? = some (Obj.cells c t (0, 0)) → (t = 110 ∨ t = 125) → w'.heap[b]? = some (Obj.cells c t (0, 0))) →
    (∀ b, S b → b < w.heap.size → S' b) → SNode w d S v f → SNode w' d S' v f
  | 0, S, S', v, f, h, hS, h0 => Node.stayS (S := S) (S' := S') h hS 0 v f h0
  | d + 1, S, S', v, f, h, hS, ⟨b, arr, T, h1, h2, h3, h4, h5, h6, h7, h8⟩ =>
    ⟨b, arr, fun k x => T k x ∧ x < w.heap.size, h1, h b arr 125 h6 h2 (.inr rfl), h3, h4, fun k hk => by
      obtain ⟨c, hc, h9⟩ := h5 k hk
      refine ⟨c, hc, ?_⟩
      rcases h9 with h9 | h9
      · exact .inl h9
      · exact .inr (SNode.keep d (T k) _ c _ (fun b c t hb => h b c t (h7 k b hb).1) (fun x hx hl => ⟨hx, hl⟩) h9), hS b h6 (lt_of_block h2),
      fun k x hx => ⟨hS x (h7 k x hx.1).1 hx.2, (h7 k x hx.1).2⟩, fun k k' x hk hx hx' => h8 k k' x hk hx.1 hx'.1⟩

theorem SNode.stay {w w' : World} {d : Nat} {S : Nat → Prop} {v : Value} {f : Nat → Option Int} (n : SNode w d S v f) (h : Stay w w') : SNode w' d S v f :=
  SNode.keep d S S v f (fun b c t _ h1 h2 => h b c t h1 (by rcases h2 with h2 | h2 <;> simp [h2])) (fun _ h _ => h) n
theorem SNode.inS {w : World} {d : Nat} {S S' : Nat → Prop} {v : Value} {f : Nat → Option Int} (n : SNode w d S v f) (h : ∀ b, S b → b < w.heap.size → S' b) : SNode w d S' v f :=
  SNode.keep d S S' v f (fun _ _ _ _ h1 _ => h1) h n
/-- blocks outside may turn -/
theorem SNode.but {w w' : World} {d : Nat} {S R : Nat → Prop} {v : Value} {f : Nat → Option Int} (n : SNode w d S v f) (h : But R w w') (hd : ∀ b, S b → ¬ R b) : SNode w' d S v f :=
  SNode.keep d S S v f (fun b _c _t hb h1 _ => h.at h1 (hd b hb)) (fun _ h _ => h) n

theorem SNode.mono {w : World} : ∀ (d : Nat) (S : Nat → Prop) (v : Value) (f g : Nat → Option Int), SNode w d S v f → (∀ j y, j < 32 ^ (d + 1) → g j = some y → f j = some y) → SNode w d S v g
  | 0, S, v, f, g, h0, h => Node.mono (S := S) 0 v f g h0 h
  | d + 1, S, v, f, g, ⟨b, arr, T, h1, h2, h3, h4, h5, h8⟩, h => ⟨b, arr, T, h1, h2, h3, h4, fun k hk => by
      obtain ⟨c, hc, h6⟩ := h5 k hk
      have hb : ∀ j, j < 32 ^ (d + 1) → k * 32 ^ (d + 1) + j < 32 ^ (d + 1 + 1) := fun j hj => by
        have e : (32 ^ (d + 1 + 1) : Nat) = 32 ^ (d + 1) * 32 := Nat.pow_succ _ _
        rw [e]
        have : (k + 1) * 32 ^ (d + 1) ≤ 32 * 32 ^ (d + 1) := Nat.mul_le_mul_right _ (by omega)
        rw [Nat.add_mul, Nat.one_mul] at this
        rw [Nat.mul_comm (32 ^ (d + 1)) 32]
        omega
      refine ⟨c, hc, ?_⟩
      rcases h6 with ⟨h6, h7⟩ | h6
      · refine .inl ⟨h6, fun j hj => ?_⟩
        cases hg : g (k * 32 ^ (d + 1) + j) with
        | none => rfl
        | some y => have := h _ y (hb j hj) hg; rw [h7 j hj] at this; cases this
      · exact .inr (SNode.mono d (T k) c _ _ h6 fun j y hj hg => h _ y (hb j hj) hg), h8⟩

/-- the post of a set in place -/
def MutPost (S : Nat → Prop) (w : World) (d p : Nat) (g : Nat → Option Int) (e : Ending) (w' : World) : Prop :=
  e = .returned (.iface (ty d) (.pointer (some ⟨p, 0, none⟩))) ∧ SNode w' d (New S w) (.iface (ty d) (.pointer (some ⟨p, 0, none⟩))) g ∧ But S w w'

theorem leaf_mut {S : Nat → Prop} {w : World} {p : Nat} {f : Nat → Option Int} (i x : Int) (h : SNode w 0 S (.iface 111 (.pointer (some ⟨p, 0, none⟩))) f) :
    Calls Try.prog 93 #[.pointer (some ⟨p, 0, none⟩), .int .i64 i, .int .i64 x, .bool true] w (MutPost S w 0 p (upd f (loc i 0) x)) := by
  obtain ⟨b, arr, occ, h1, h2, h3, h4, h5, h6, h7, h8⟩ := h
  simp only [Value.iface.injEq, Value.pointer.injEq, Option.some.injEq, Addr.mk.injEq, true_and, and_true] at h1
  subst h1
  obtain ⟨y, hy, hz⟩ := h7 (slot i 0) (slot_lt i 0)
  refine (leaf_mut_w p arr occ i x y (slot i 0) w (slot0 i) (slot_lt i 0) h2 h4 hy).mono ?_
  rintro e w' ⟨rfl, rfl⟩
  have hr := u32_or occ (2 ^ (slot i 0) % 4294967296)
  have hl := slot_lt i 0
  have k1 := heap_setCell_same w p (slot i 0) _ 110 (.int .i64 x) h2
  have k2 := heap_setCell_same _ p 32 _ 110 (.int .u32 (bits BinOp.or IntKind.u32 occ (2 ^ (slot i 0) % 4294967296))) k1
  refine ⟨rfl, ⟨p, _, _, rfl, k2, by simp [h3], ?_, hr.1, hr.2, ?_, .inl h8⟩, (((But.refl S w).setCell (p := ⟨p, slot i 0, none⟩) (.inl h8) _).setCell (p := ⟨p, 32, none⟩) (.inl h8) _).drew⟩
  · rw [Array.getElem?_setIfInBounds_self_of_lt (by simp [h3])]
  · intro k hk
    rw [Array.getElem?_setIfInBounds_ne (by omega), loc0]
    by_cases e : k = slot i 0
    · subst e
      rw [Array.getElem?_setIfInBounds_self_of_lt (by omega)]
      exact ⟨x, rfl, fun y hy => by unfold upd at hy; rw [if_pos rfl] at hy; cases hy; rfl⟩
    · rw [Array.getElem?_setIfInBounds_ne (fun h => e h.symm)]
      obtain ⟨y', hy', hz'⟩ := h7 k hk
      exact ⟨y', hy', fun y hy => by unfold upd at hy; rw [if_neg e] at hy; exact hz' y hy⟩

/-- behind a set in place of a branch: the child's own place is written -/
def BranchMut (w : World) (b j t : Nat) (R : World → Nat → World → Prop) (e : Ending) (w' : World) : Prop :=
  e = .returned (.iface 122 (.pointer (some ⟨b, 0, none⟩))) ∧ ∃ q W V, Below w.heap.size w W ∧ R W q V ∧ V.heap[b]? = w.heap[b]? ∧ w' = V.setCell ⟨b, 1 + j, none⟩ (.iface t (.pointer (some ⟨q, 0, none⟩)))

set_option maxRecDepth 100000 in
set_option maxHeartbeats 800000 in
theorem branch_mut_w (b : Nat) (arr : Array Value) (i x : Int) (j d : Nat) (w : World) (R : World → Nat → World → Prop) (hd : d + 1 < 12) (hb : bits BinOp.and IntKind.i64 (i / 2 ^ ((d + 1) * 5)) 31 = j) (hj : j < 32)
    (hblk : w.heap[b]? = some (.cells arr 125 (0, 0))) (hc0 : arr[0]? = some (.int .u64 ((d + 1 : Nat) : Int))) (p : Nat) (t fid : Nat) (hc : arr[1 + j]? = some (.iface t (.pointer (some ⟨p, 0, none⟩))))
    (h0 : Disp t fid "pub-frond/pub/immutable.set")
    (hcall : ∀ w', Below w.heap.size w w' → Calls Try.prog fid #[.pointer (some ⟨p, 0, none⟩), .int .i64 i, .int .i64 x, .bool true] w' (fun e w'' => ∃ q, e = .returned (.iface t (.pointer (some ⟨q, 0, none⟩))) ∧ R w' q w'' ∧ w''.heap[b]? = w'.heap[b]?)) :
    Calls Try.prog 103 #[.pointer (some ⟨b, 0, none⟩), .int .i64 i, .int .i64 x, .bool true] w (BranchMut w b j t R) := by
  have hcell0 := cell_at hblk hc0
  have hcellj := cell_at hblk hc
  have HB := Lib.hid hblk
  obtain ⟨h1, h2, h3⟩ := h0
  have H4 := Lib.hid hcall; clear hcall
  go_enter Try.func103, Try.ntmps103
  go_wp2_with fail
  go_region_with (first | ((with_reducible refine (H4.out _ (Below.refl _ w).drew).mono ?_); rintro e w' ⟨q, rfl, hr, hh⟩; have hz' : w'.heap[b]? = some (.cells arr 125 (0, 0)) := hh.trans HB.out; have hc' := cell_at hz' hc; have hf' : w'.frozen? ⟨b, 1 + j, none⟩ = false := frozen_of_row _ _ _ _ _ hz'; have HR := Lib.hid (And.intro hr hh); clear hr hh hz'))
  go_wp2
  go_ret
  exact ⟨rfl, q, _, w', (Below.refl _ w).drew, HR.out.1, HR.out.2, rfl⟩

set_option maxRecDepth 100000 in
set_option maxHeartbeats 800000 in
theorem branch_mut_n (b : Nat) (arr : Array Value) (i x : Int) (j d : Nat) (w : World) (N : World → Value → World → Prop) (R : World → Nat → World → Prop) (hd : d + 1 < 12) (hb : bits BinOp.and IntKind.i64 (i / 2 ^ ((d + 1) * 5)) 31 = j) (hj : j < 32)
    (hblk : w.heap[b]? = some (.cells arr 125 (0, 0))) (hc0 : arr[0]? = some (.int .u64 ((d + 1 : Nat) : Int))) (hc : arr[1 + j]? = some .nilIface)
    (t fid : Nat) (h0 : Disp t fid "pub-frond/pub/immutable.set")
    (hnew : ∀ w', Calls Try.prog 104 #[.int .u64 (d : Int)] w' (fun e w'' => ∃ p, e = .returned (.iface t (.pointer (some ⟨p, 0, none⟩))) ∧ N w' (.pointer (some ⟨p, 0, none⟩)) w'' ∧ Below w'.heap.size w' w''))
    (hcall : ∀ w' w2 (p : Nat), Below w.heap.size w w2 → N w' (.pointer (some ⟨p, 0, none⟩)) w2 → Below w.heap.size w w' → Calls Try.prog fid #[.pointer (some ⟨p, 0, none⟩), .int .i64 i, .int .i64 x, .bool true] w2.drew (fun e w'' => ∃ q, e = .returned (.iface t (.pointer (some ⟨q, 0, none⟩))) ∧ R w2.drew q w'' ∧ w''.heap[b]? = w2.heap[b]?)) :
    Calls Try.prog 103 #[.pointer (some ⟨b, 0, none⟩), .int .i64 i, .int .i64 x, .bool true] w (BranchMut w b j t R) := by
  have hcell0 := cell_at hblk hc0
  have hcellj := cell_at hblk hc
  have HB := Lib.hid hblk
  obtain ⟨h1, h2, h3⟩ := h0
  have H4 := Lib.hid hcall; clear hcall
  have H5 := Lib.hid hnew; clear hnew
  go_enter Try.func103, Try.ntmps103
  go_wp2_with fail
  refine (depth_w1 b _ _ hcell0).mono ?_
  rintro e w' ⟨rfl, rfl⟩
  go_wp2_with fail
  refine (H5.out _).mono ?_
  rintro e w1 ⟨p, rfl, hn1, hb1⟩
  have hB1 : Below w.heap.size w w1 := hb1
  have H6 := Lib.hid (H4.out _ _ _ hB1 hn1 (Below.refl _ w))
  have HB1 : Hid (w1.heap[b]? = some (.cells arr 125 (0, 0))) := (hB1.block b (lt_of_block HB.out)).trans HB.out
  have HBB := Lib.hid hB1
  clear hn1 hb1 hB1 hcell0 hcellj hblk
  go_wp2_with fail
  go_region_with (first | ((with_reducible refine H6.out.mono ?_); rintro e w' ⟨q, rfl, hr, hh⟩; have hz' : w'.heap[b]? = some (.cells arr 125 (0, 0)) := hh.trans HB1.out; have hc' := cell_at hz' hc; have hf' : w'.frozen? ⟨b, 1 + j, none⟩ = false := frozen_of_row _ _ _ _ _ hz'; have HR := Lib.hid (And.intro hr hz'); clear hr hh hz'))
  go_wp2
  go_ret
  exact ⟨rfl, q, _, w', HBB.out.drew, HR.out.1, HR.out.2.trans HB.out.symm, rfl⟩

end Go.Proofs.Ytnahipfdnadccaa

namespace Go.Proofs.Ytnahipfdnadccaa
open Go.RowKit

/-- a new node, all of it new -/
def NewPost (w : World) (d : Nat) (e : Ending) (w' : World) : Prop :=
  ∃ p, e = .returned (.iface (ty d) (.pointer (some ⟨p, 0, none⟩))) ∧ SNode w' d (fun b => w.heap.size ≤ b) (.iface (ty d) (.pointer (some ⟨p, 0, none⟩))) (fun _ => none) ∧ Below w.heap.size w w'

theorem snew_leaf (w : World) : SNode (w.alloc (Obj.cells (zleaf 0).toArray 110)) 0 (fun b => w.heap.size ≤ b) (.iface 111 (.pointer (some ⟨w.heap.size, 0, none⟩))) (fun _ => none) :=
  (new_leaf (fun _ => False) w w.heap.size rfl).inS fun _b h _ => h.elim (fun h => h.elim) (fun h => h)
theorem snew_branch (w : World) (d : Nat) : SNode (w.alloc (Obj.cells (zbranch (d + 1)).toArray 125)) (d + 1) (fun b => w.heap.size ≤ b) (.iface 122 (.pointer (some ⟨w.heap.size, 0, none⟩))) (fun _ => none) :=
  ⟨_, _, fun _ _ => False, rfl, heap_alloc_last w _, by rw [List.size_toArray, zbranch_len], by rw [List.getElem?_toArray]; rfl, fun k hk => ⟨_, by rw [List.getElem?_toArray]; exact zbranch_get (d + 1) k hk, .inl ⟨rfl, fun _ _ => rfl⟩⟩, Nat.le_refl _, fun _ _ h => h.elim, fun _ _ _ _ h => h.elim⟩

set_option maxRecDepth 100000 in
set_option maxHeartbeats 400000 in
theorem snew_w0 (w : World) : Calls Try.prog 104 #[.int .u64 0] w (NewPost w 0) := by
  go_enter Try.func104, Try.ntmps104
  go_wp2
  go_ret
  exact ⟨_, rfl, snew_leaf w, (Below.refl _ _).alloc (Nat.le_refl _) _⟩

set_option maxRecDepth 100000 in
set_option maxHeartbeats 400000 in
theorem snew_w1 (d : Nat) (w : World) (hd : d < 12) : Calls Try.prog 104 #[.int .u64 ((d : Int) + 1)] w (NewPost w (d + 1)) := by
  have h : ((d : Int) + 1 == 0) = false := by simp; omega
  go_enter Try.func104, Try.ntmps104
  go_wp2
  go_ret
  exact ⟨_, rfl, snew_branch w d, (Below.refl _ _).alloc (Nat.le_refl _) _⟩

theorem snew_any (d : Nat) (w : World) (hd : d < 12) : Calls Try.prog 104 #[.int .u64 (d : Int)] w (NewPost w d) := by
  cases d with
  | zero => exact snew_w0 w
  | succ d => exact snew_w1 d w (by omega)

/-- a branch whose child number s is another node now, its other children as they were -/
theorem branch_mut_end {w V : World} {S : Nat → Prop} {d p s q : Nat} {arr : Array Value} {T : Nat → Nat → Prop} {f g : Nat → Option Int} (hs : s < 32)
    (h2 : w.heap[p]? = some (.cells arr 125 (0, 0))) (h3 : arr.size = 33) (h4 : arr[0]? = some (.int .u64 ((d + 1 : Nat) : Int)))
    (h5 : ∀ k, k < 32 → ∃ c, arr[1 + k]? = some c ∧ ((c = .nilIface ∧ ∀ j, j < 32 ^ (d + 1) → f (k * 32 ^ (d + 1) + j) = none) ∨ SNode w d (T k) c (fun j => f (k * 32 ^ (d + 1) + j))))
    (h6 : S p) (h7 : ∀ k x, T k x → S x ∧ x ≠ p) (h8 : ∀ k k' x, k ≠ k' → T k x → ¬ T k' x)
    (hb : But (fun x => T s x ∨ w.heap.size ≤ x) w V) (hn : SNode V d (fun x => (T s x ∧ x < w.heap.size) ∨ w.heap.size ≤ x) (.iface (ty d) (.pointer (some ⟨q, 0, none⟩))) (fun j => g (s * 32 ^ (d + 1) + j)))
    (hg : ∀ k j, k ≠ s → j < 32 ^ (d + 1) → g (k * 32 ^ (d + 1) + j) = f (k * 32 ^ (d + 1) + j)) :
    MutPost S w (d + 1) p g (.returned (.iface 122 (.pointer (some ⟨p, 0, none⟩)))) (V.setCell ⟨p, 1 + s, none⟩ (.iface (ty d) (.pointer (some ⟨q, 0, none⟩)))) := by
  have hp : p < w.heap.size := lt_of_block h2
  have hTp : ¬ (T s p ∨ w.heap.size ≤ p) := fun h => h.elim (fun h => (h7 s p h).2 rfl) (fun h => by omega)
  have hV := hb.at h2 hTp
  have hset : But (· = p) V (V.setCell ⟨p, 1 + s, none⟩ (.iface (ty d) (.pointer (some ⟨q, 0, none⟩)))) := (But.refl (· = p) V).setCell (p := ⟨p, 1 + s, none⟩) (.inl rfl) _
  refine ⟨rfl, ⟨p, _, fun k x => if k = s then (T s x ∧ x < w.heap.size) ∨ w.heap.size ≤ x else T k x ∧ x < w.heap.size, rfl, heap_setCell_same _ _ _ _ _ _ hV, by simp [h3], ?_, fun k hk => ?_, .inl h6, fun k x hx => ?_, fun k k' x hkk hx hx' => ?_⟩, ?_⟩
  · rw [Array.getElem?_setIfInBounds_ne (by omega)]; exact h4
  · by_cases e : k = s
    · subst e
      refine ⟨_, by rw [Array.getElem?_setIfInBounds_self_of_lt (by rw [h3]; omega)], .inr ?_⟩
      simp only [if_true]
      refine hn.but hset fun x hx he => ?_
      subst he
      rcases hx with hx | hx
      · exact (h7 k x hx.1).2 rfl
      · omega
    · obtain ⟨c, hc, h⟩ := h5 k hk
      refine ⟨c, by rw [Array.getElem?_setIfInBounds_ne (by omega)]; exact hc, ?_⟩
      rcases h with ⟨h, h'⟩ | h
      · exact .inl ⟨h, fun j hj => (hg k j e hj).trans (h' j hj)⟩
      · right
        simp only [e, if_false]
        refine SNode.mono _ _ _ _ _ (((h.inS (S' := fun x => T k x ∧ x < w.heap.size) fun x h1 h2 => ⟨h1, h2⟩).but hb fun x hx h' => ?_).but hset fun x hx he => ?_) fun j y hj hy => (hg k j e hj) ▸ hy
        · rcases h' with h' | h'
          · exact h8 k s x e hx.1 h'
          · have := hx.2; omega
        · exact (h7 k x hx.1).2 he
  · by_cases e : k = s
    · subst e
      simp only [if_true] at hx
      rcases hx with hx | hx
      · exact ⟨.inl (h7 k x hx.1).1, (h7 k x hx.1).2⟩
      · exact ⟨.inr hx, by omega⟩
    · simp only [e, if_false] at hx
      exact ⟨.inl (h7 k x hx.1).1, (h7 k x hx.1).2⟩
  · by_cases e : k = s
    · by_cases e' : k' = s
      · omega
      · simp only [e, e', if_true, if_false] at hx hx'
        rcases hx with hx | hx
        · exact h8 s k' x (fun h => e' h.symm) hx.1 hx'.1
        · omega
    · by_cases e' : k' = s
      · simp only [e, e', if_true, if_false] at hx hx'
        rcases hx' with hx' | hx'
        · exact h8 s k x (fun h => e h.symm) hx'.1 hx.1
        · omega
      · simp only [e, e', if_false] at hx hx'
        exact h8 k k' x hkk hx.1 hx'.1
  · have h1 : But S w V := ⟨hb.os, hb.tape, hb.output, hb.size, fun k hk hk' => hb.block k hk fun h => h.elim (fun h => hk' (h7 s k h).1) (fun h => by omega)⟩
    exact h1.setCell (p := ⟨p, 1 + s, none⟩) (.inl h6) _

theorem set_mut (i x : Int) : ∀ (d : Nat) (S : Nat → Prop) (w : World) (p : Nat) (f : Nat → Option Int), d < 12 → SNode w d S (.iface (ty d) (.pointer (some ⟨p, 0, none⟩))) f →
    Calls Try.prog (fn 93 103 d) #[.pointer (some ⟨p, 0, none⟩), .int .i64 i, .int .i64 x, .bool true] w (MutPost S w d p (upd f (loc i d) x))
  | 0, S, w, p, f, _, h => leaf_mut i x h
  | d + 1, S, w, p, f, hd, ⟨b, arr, T, h1, h2, h3, h4, h5, h6, h7, h8⟩ => by
    simp only [Value.iface.injEq, Value.pointer.injEq, Option.some.injEq, Addr.mk.injEq, and_true] at h1
    obtain ⟨_, h1⟩ := h1
    subst h1
    have hlt := slot_lt i (d + 1)
    have hp : p < w.heap.size := lt_of_block h2
    have hg : ∀ k j, k ≠ slot i (d + 1) → j < 32 ^ (d + 1) → upd f (loc i (d + 1)) x (k * 32 ^ (d + 1) + j) = f (k * 32 ^ (d + 1) + j) := fun k j hk hj => by
      rw [loc_succ]; exact upd_other _ _ _ _ _ _ (fun h => hk h.symm) (loc_lt i d) _ hj
    have hgs : (fun j => upd f (loc i (d + 1)) x (slot i (d + 1) * 32 ^ (d + 1) + j)) = upd (fun j => f (slot i (d + 1) * 32 ^ (d + 1) + j)) (loc i d) x := by
      rw [loc_succ, upd_shift]
    obtain ⟨c, hc, h9⟩ := h5 (slot i (d + 1)) hlt
    rcases h9 with ⟨rfl, h9⟩ | h9
    · refine (branch_mut_n p arr i x (slot i (d + 1)) d w (fun w' v w'' => SNode w'' d (fun b => w'.heap.size ≤ b) (.iface (ty d) v) (fun _ => none))
        (fun W q V => But (fun x => w.heap.size ≤ x) W V ∧ SNode V d (fun x => w.heap.size ≤ x) (.iface (ty d) (.pointer (some ⟨q, 0, none⟩))) (upd (fun _ => none) (loc i d) x))
        hd (slot_eq i (d + 1)) hlt h2 h4 hc (ty d) (fn 93 103 d) (disp_ty disp_set0 disp_set1 d) (fun w' => ?_) (fun w' w2 q hb2 hn hb' => ?_)).mono ?_
      · refine (snew_any d w' (by omega)).mono ?_
        rintro e w'' ⟨q, rfl, hq, hb⟩
        exact ⟨q, rfl, hq, hb⟩
      · have hsz : w.heap.size ≤ w'.heap.size := hb'.size
        have hsz2 : w.heap.size ≤ w2.heap.size := hb2.size
        refine (set_mut i x d (fun b => w.heap.size ≤ b) w2.drew q _ (by omega) ((hn.inS fun b h _ => Nat.le_trans hsz h).stay (fun _ _ _ h _ => h))).mono ?_
        rintro e w'' ⟨rfl, hq, hb⟩
        refine ⟨q, rfl, ⟨hb, hq.inS fun b h _ => h.elim (fun h => h) (fun h => Nat.le_trans hsz2 h)⟩, ?_⟩
        exact hb.block p (Nat.lt_of_lt_of_le hp hsz2) (by omega)
      · rintro e w' ⟨rfl, q, W, V, hW, ⟨hV, hn⟩, -, rfl⟩
        have hbV : But (fun x => T (slot i (d + 1)) x ∨ w.heap.size ≤ x) w V := (But.of_below hW).trans (hV.wider fun _ _ h => .inr h)
        refine branch_mut_end hlt h2 h3 h4 h5 h6 h7 h8 hbV ?_ hg
        rw [hgs]
        refine SNode.mono _ _ _ _ _ (hn.inS fun b h _ => .inr h) fun j y hj hy => ?_
        unfold upd at hy ⊢
        split
        · rename_i e; rw [if_pos e] at hy; exact hy
        · rename_i e; rw [if_neg e] at hy; have hy' : f (slot i (d + 1) * 32 ^ (d + 1) + j) = some y := hy; rw [h9 j hj] at hy'; cases hy'
    · obtain ⟨q, rfl⟩ := h9.ptr
      refine (branch_mut_w p arr i x (slot i (d + 1)) d w
        (fun W q V => But (fun x => T (slot i (d + 1)) x ∨ w.heap.size ≤ x) W V ∧ SNode V d (fun x => (T (slot i (d + 1)) x ∧ x < w.heap.size) ∨ w.heap.size ≤ x) (.iface (ty d) (.pointer (some ⟨q, 0, none⟩))) (upd (fun j => f (slot i (d + 1) * 32 ^ (d + 1) + j)) (loc i d) x))
        hd (slot_eq i (d + 1)) hlt h2 h4 q (ty d) (fn 93 103 d) hc (disp_ty disp_set0 disp_set1 d) (fun w' hb' => ?_)).mono ?_
      · have hsz : w.heap.size ≤ w'.heap.size := hb'.size
        refine (set_mut i x d (fun x => T (slot i (d + 1)) x ∧ x < w.heap.size) w' q _ (by omega) ((h9.inS fun b h1 h2 => ⟨h1, h2⟩).stay (Stay.of_below hb'))).mono ?_
        rintro e w'' ⟨rfl, hq, hb⟩
        refine ⟨q, rfl, ⟨hb.wider fun _ _ h => .inl h.1, hq.inS fun b h _ => h.elim (fun h => .inl h) (fun h => .inr (Nat.le_trans hsz h))⟩, ?_⟩
        exact hb.block p (Nat.lt_of_lt_of_le hp hsz) (fun h => (h7 _ _ h.1).2 rfl)
      · rintro e w' ⟨rfl, q', W, V, hW, ⟨hV, hn⟩, -, rfl⟩
        refine branch_mut_end hlt h2 h3 h4 h5 h6 h7 h8 ((But.of_below hW).trans hV) ?_ hg
        rw [hgs]
        exact hn

end Go.Proofs.Ytnahipfdnadccaa

namespace Go.Proofs.Ytnahipfdnadccaa
open Go.RowKit

/-- a new root over a separated node -/
theorem snew_root {V : World} {N d m q : Nat} {S : Nat → Prop} {f g : Nat → Option Int} (hN : V.heap[N]? = some (.cells (((zbranch (d + 1)).toArray).setIfInBounds (1 + m) (.iface (ty d) (.pointer (some ⟨q, 0, none⟩)))) 125 (0, 0))) (hm : m < 32) (hS : ¬ S N)
    (hn : SNode V d S (.iface (ty d) (.pointer (some ⟨q, 0, none⟩))) f) (h1 : ∀ j y, j < 32 ^ (d + 1) → g (m * 32 ^ (d + 1) + j) = some y → f j = some y) (h2 : ∀ k j, k < 32 → k ≠ m → j < 32 ^ (d + 1) → g (k * 32 ^ (d + 1) + j) = none) :
    SNode V (d + 1) (fun x => S x ∨ x = N) (.iface 122 (.pointer (some ⟨N, 0, none⟩))) g := by
  refine ⟨N, _, fun k x => k = m ∧ S x, rfl, hN, by rw [Array.size_setIfInBounds]; exact zbranch_len (d + 1), ?_, fun k hk => ?_, .inr rfl, fun k x hx => ⟨.inl hx.2, fun e => hS (e ▸ hx.2)⟩, fun k k' x hk hx hx' => hk (hx.1.trans hx'.1.symm)⟩
  · rw [Array.getElem?_setIfInBounds_ne (by omega)]; rfl
  · by_cases e : k = m
    · subst e
      exact ⟨_, by rw [Array.getElem?_setIfInBounds_self_of_lt (by rw [List.size_toArray, zbranch_len]; omega)], .inr (SNode.mono _ _ _ _ _ (hn.inS fun b h _ => ⟨rfl, h⟩) fun j y hj hy => h1 j y hj hy)⟩
    · exact ⟨_, by rw [Array.getElem?_setIfInBounds_ne (by omega)]; rw [List.getElem?_toArray]; exact zbranch_get (d + 1) k hk, .inl ⟨rfl, fun j hj => h2 k j hk e hj⟩⟩

set_option maxRecDepth 100000 in
set_option maxHeartbeats 1600000 in
theorem append_gmut_w (b d p fid fid' t o s c : Nat) (x : Int) (w : World) (Q : World → Nat → World → Prop) (hdd : d < 12) (ho : o + s ≤ 1152921504606846976) (hle : c ≤ s + o)
    (hblk : w.heap[b]? = some (.cells #[.iface t (.pointer (some ⟨p, 0, none⟩)), .int .i64 (o : Int), .int .i64 (s : Int)] 113 (0, 0)))
    (hcap : ∀ w', Below w.heap.size w w' → Calls Try.prog 71 #[.pointer (some ⟨b, 0, none⟩)] w' fun e w'' => e = .returned (.int .i64 (c : Int)) ∧ w'' = w')
    (h0' : Disp t fid' "pub-frond/pub/immutable.depth") (hdep : ∀ w', Below w.heap.size w w' → Calls Try.prog fid' #[.pointer (some ⟨p, 0, none⟩)] w' fun e w'' => e = .returned (.int .u64 (d : Int)) ∧ w' = w'')
    (h0 : Disp 122 fid "pub-frond/pub/immutable.set")
    (h4 : ∀ w' N, But (· = b) w w' → w.heap.size ≤ N → w'.heap[N]? = some (.cells (((zbranch (d + 1)).toArray).setIfInBounds (1 + 0) (.iface t (.pointer (some ⟨p, 0, none⟩)))) 125 (0, 0)) →
      Calls Try.prog fid #[.pointer (some ⟨N, 0, none⟩), .int .i64 ((o : Int) + s), .int .i64 x, .bool true] w' fun e w'' => ∃ q, e = .returned (.iface 122 (.pointer (some ⟨q, 0, none⟩))) ∧ Q w' q w'' ∧ w''.heap[b]? = w'.heap[b]?) :
    Calls Try.prog 66 #[.pointer (some ⟨b, 0, none⟩), .int .i64 x, .bool true] w fun e w' => e = .returned (.pointer (some ⟨b, 0, none⟩)) ∧ ∃ q W V r, But (· = b) w W ∧ Q W q V ∧
      V.heap[b]? = some (.cells #[r, .int .i64 (o : Int), .int .i64 ((s : Int) + 1)] 113 (0, 0)) ∧ w' = V.setCell ⟨b, 0, none⟩ (.iface 122 (.pointer (some ⟨q, 0, none⟩))) := by
  obtain ⟨h1, h2, h3⟩ := h0
  obtain ⟨h1', h2', h3'⟩ := h0'
  have H4 := Lib.hid h4; clear h4
  have HC := Lib.hid hcap; clear hcap
  have HD := Lib.hid hdep; clear hdep
  have HBL := Lib.hid hblk
  obtain ⟨hd0, hd1, hd2⟩ := head_cells hblk
  have hw1 : IntKind.i64.wrap ((s : Int) + o) = (s : Int) + o := by rw [IntKind.wrap_i64]; omega
  have hge : decide ((c : Int) ≤ (s : Int) + o) = true := by simp; omega
  clear hblk
  go_enter Try.func66, Try.ntmps66
  go_wp2_with fail
  refine region_still (by kernel_rfl) (by kernel_rfl) ?_
  repeat still_step
  still_call (HC.out _ (Below.refl _ w).drew)
  repeat still_step
  refine wpStill_nil ?_
  go_wp2_with fail
  refine (HD.out _ (Below.refl _ w).drew).mono ?_
  rintro e w' ⟨rfl, rfl⟩
  go_wp2_with fail
  change Code.wp _ _ _ _ (w.alloc (Obj.cells (zbranch (d + 1)).toArray 125)).drew
  have hN : Hid ((w.alloc (Obj.cells (zbranch (d + 1)).toArray 125)).drew.heap[w.heap.size]? = some (.cells (zbranch (d + 1)).toArray 125 (0, 0))) := heap_alloc_last w _
  have hB1 : Below w.heap.size w (w.alloc (Obj.cells (zbranch (d + 1)).toArray 125)).drew := ((Below.refl _ _).alloc (Nat.le_refl _) _).drew
  have hL : Hid ((w.alloc (Obj.cells (zbranch (d + 1)).toArray 125)).drew.heap[b]? = some (.cells #[.iface t (.pointer (some ⟨p, 0, none⟩)), .int .i64 (o : Int), .int .i64 (s : Int)] 113 (0, 0))) := (hB1.block _ (lt_of_block HBL.out)).trans HBL.out
  have hlt : b < w.heap.size := lt_of_block HBL.out
  have hB2 : Hid (But (· = b) w (w.alloc (Obj.cells (zbranch (d + 1)).toArray 125)).drew) := But.of_below hB1
  have HNW : Hid (w.heap.size ≤ w.heap.size) := Nat.le_refl _
  generalize hV : (w.alloc (Obj.cells (zbranch (d + 1)).toArray 125)).drew = V at hN hL hB2 ⊢
  clear hV hB1 hd0 hd1 hd2 hw1 hge HC HD HBL
  have HX : ∃ N, Hid (w.heap.size ≤ N) ∧ w.heap.size = N := ⟨_, HNW, rfl⟩
  obtain ⟨N, HNN, hNe⟩ := HX
  rw [hNe] at hN hlt ⊢
  clear HNW hNe
  obtain ⟨hd0, hd1, hd2⟩ := head_cells hL.out
  have hf0 := head_free hL.out 0
  have hf2 := head_free hL.out 2
  have hne1 : ¬ b = N := by omega
  have hne2 : ¬ N = b := by omega
  have hn1 : V.cell? ⟨N, 1, none⟩ = some .nilIface := cell_at hN.out rfl
  have hnf : V.frozen? ⟨N, 1, none⟩ = false := frozen_of_row _ _ _ _ _ hN.out
  refine region_tail 8 (by kernel_rfl) (by kernel_rfl) ?_
  simp only [List.take_succ_cons, List.take_zero, List.drop_succ_cons, List.drop_zero]
  repeat still_step
  refine wpStill_nil ?_
  go_wp2_with fail
  have hN1 : (V.setCell ⟨N, 1, none⟩ (.iface t (.pointer (some ⟨p, 0, none⟩)))).heap[N]? = some (.cells ((zbranch (d + 1)).toArray.setIfInBounds (1 + 0) (.iface t (.pointer (some ⟨p, 0, none⟩)))) 125 (0, 0)) := heap_setCell_same _ _ _ _ _ _ hN.out
  have hL1 : (V.setCell ⟨N, 1, none⟩ (.iface t (.pointer (some ⟨p, 0, none⟩)))).heap[b]? = some (.cells #[.iface t (.pointer (some ⟨p, 0, none⟩)), .int .i64 (o : Int), .int .i64 (s : Int)] 113 (0, 0)) := by
    rw [heap_setCell_other _ _ _ _ (by show b ≠ N; omega)]; exact hL.out
  have hL2 := head_set2 (head_set0 hL1 (.iface 122 (.pointer (some ⟨N, 0, none⟩)))) (.int .i64 ((s : Int) + 1))
  have hN2 : (((V.setCell ⟨N, 1, none⟩ (.iface t (.pointer (some ⟨p, 0, none⟩)))).setCell ⟨b, 0, none⟩ (.iface 122 (.pointer (some ⟨N, 0, none⟩)))).setCell ⟨b, 2, none⟩ (.int .i64 ((s : Int) + 1))).drew.heap[N]? = some (.cells ((zbranch (d + 1)).toArray.setIfInBounds (1 + 0) (.iface t (.pointer (some ⟨p, 0, none⟩)))) 125 (0, 0)) := by
    rw [heap_drew, heap_setCell_other _ _ _ _ (by show N ≠ b; omega), heap_setCell_other _ _ _ _ (by show N ≠ b; omega)]; exact hN1
  have hB3 := Lib.hid ((((hB2.out.setCell (p := ⟨N, 1, none⟩) (.inr HNN.out) (.iface t (.pointer (some ⟨p, 0, none⟩)))).setCell (p := ⟨b, 0, none⟩) (.inl rfl) (.iface 122 (.pointer (some ⟨N, 0, none⟩)))).setCell (p := ⟨b, 2, none⟩) (.inl rfl) (.int .i64 ((s : Int) + 1))).drew)
  generalize hU : (((V.setCell ⟨N, 1, none⟩ (.iface t (.pointer (some ⟨p, 0, none⟩)))).setCell ⟨b, 0, none⟩ (.iface 122 (.pointer (some ⟨N, 0, none⟩)))).setCell ⟨b, 2, none⟩ (.int .i64 ((s : Int) + 1))).drew = U at hL2 hN2 hB3 ⊢
  have hZ2 := Lib.hid hL2
  have H5 := Lib.hid (H4.out U.drew N hB3.out.drew HNN.out hN2)
  clear hU hN1 hL1 hL2 hN2 hL hN hB2 hd0 hd1 hd2 hf0 hf2 hn1 hnf V H4 HNN
  obtain ⟨hd0, hd1, hd2⟩ := head_cells hZ2.out
  have hw1 : IntKind.i64.wrap ((o : Int) + ((s : Int) + 1)) = (o : Int) + ((s : Int) + 1) := by rw [IntKind.wrap_i64]; omega
  have hw2 : IntKind.i64.wrap ((o : Int) + ((s : Int) + 1) - 1) = (o : Int) + s := by rw [IntKind.wrap_i64]; omega
  refine region_fix [0] [1, 2, 3, 4, 5, 6, 7, 8, 9, 10, 11, 12, 13, 14, 15, 16, 17, 18] [19, 20, 21, 22] (by kernel_rfl) (by intro dst v c a w h; cases dst <;> exact h) (by kernel_rfl) ?_
  simp only [opsOf, List.getElem?_toArray, List.getElem?_cons_succ, List.getElem?_cons_zero]
  refine wpPure_step ?_ rfl (fun W => ?_) ?_; rotate_left 1; · go_simp; try with_reducible rfl
  refine wpPure_nil ?_
  repeat still_step
  refine wpStill_nil ?_
  go_wp2_with fail
  refine H5.out.mono ?_
  rintro e w' ⟨q, rfl, hq, hh⟩
  have hz' := hh.trans hZ2.out
  have hc' := cell_at (j := 0) hz' rfl
  have hf' := head_free hz' 0
  have HQ := Lib.hid hq
  have HZ' := Lib.hid hz'
  clear hq hh hz'
  go_wp2
  go_ret
  exact ⟨rfl, q, _, w', _, hB3.out.drew, HQ.out, HZ'.out, rfl⟩

end Go.Proofs.Ytnahipfdnadccaa

namespace Go.Proofs.Ytnahipfdnadccaa
open Go.RowKit

/-- v is a list of the numbers xs, all of it in blocks from B on, no block of it on two ways -/
def SList (B : Nat) (w : World) (v : Value) (n : Nat) (xs : List Int) : Prop :=
  ∃ (b d o p : Nat) (S : Nat → Prop), v = .pointer (some ⟨b, 0, none⟩) ∧ B ≤ b ∧ (∀ x, S x → B ≤ x ∧ x ≠ b) ∧ w.heap[b]? = some (.cells #[.iface (ty d) (.pointer (some ⟨p, 0, none⟩)), .int .i64 (o : Int), .int .i64 (xs.length : Int)] 113 (0, 0)) ∧
    SNode w d S (.iface (ty d) (.pointer (some ⟨p, 0, none⟩))) (win o xs) ∧ Dep n d o xs.length

theorem SList.list {B : Nat} {w : World} {v : Value} {n : Nat} {xs : List Int} (h : SList B w v n xs) : IsList w v n xs := by
  obtain ⟨b, d, o, p, S, rfl, _, _, h1, h2, h3⟩ := h
  exact ⟨b, d, o, rfl, p, h1, h2.node.inS fun _ _ _ => trivial, h3⟩
theorem SList.stay {B : Nat} {w w' : World} {v : Value} {n : Nat} {xs : List Int} (h : SList B w v n xs) (s : Stay w w') : SList B w' v n xs := by
  obtain ⟨b, d, o, p, S, rfl, k1, k2, h1, h2, h3⟩ := h
  exact ⟨b, d, o, p, S, rfl, k1, k2, s b _ 113 h1 (.inr (.inr (.inl rfl))), h2.stay s, h3⟩

/-- the post of a step in place -/
def SPost (B : Nat) (w : World) (v : Value) (n : Nat) (xs : List Int) (e : Ending) (w' : World) : Prop := e = .returned v ∧ SList B w' v n xs ∧ Below B w w'

theorem smut_end {B b d o n p : Nat} {w W V : World} {r : Value} {s : Int} {S : Nat → Prop} {g : Nat → Option Int} {xs : List Int} (hB : B ≤ W.heap.size) (hb : B ≤ b) (hS : ∀ x, S x → B ≤ x ∧ x ≠ b) (hbW : b < W.heap.size)
    (hW : But (fun x => B ≤ x) w W) (hV : But S W V) (hn : SNode V d (New S W) (.iface (ty d) (.pointer (some ⟨p, 0, none⟩))) g)
    (hh : V.heap[b]? = some (.cells #[r, .int .i64 (o : Int), .int .i64 s] 113 (0, 0))) (hs : s = (xs.length : Int)) (hg : ∀ j y, win o xs j = some y → g j = some y) (hD : Dep n d o xs.length) (hBw : B ≤ w.heap.size) :
    SPost B w (.pointer (some ⟨b, 0, none⟩)) n xs (.returned (.pointer (some ⟨b, 0, none⟩))) (V.setCell ⟨b, 0, none⟩ (.iface (ty d) (.pointer (some ⟨p, 0, none⟩)))) := by
  subst hs
  have hset : But (· = b) V (V.setCell ⟨b, 0, none⟩ (.iface (ty d) (.pointer (some ⟨p, 0, none⟩)))) := (But.refl (· = b) V).setCell (p := ⟨b, 0, none⟩) (.inl rfl) _
  have hne : ∀ x, New S W x → B ≤ x ∧ x ≠ b := fun x hx => hx.elim (hS x) fun h => ⟨Nat.le_trans hB h, by omega⟩
  refine ⟨rfl, ⟨b, d, o, p, New S W, rfl, hb, hne, head_set0 hh _, ?_, hD⟩, ?_⟩
  · exact SNode.mono _ _ _ _ _ (hn.but hset fun x hx he => (hne x hx).2 he) fun j y _ hy => hg j y hy
  · exact (((hW.trans (hV.wider fun x _ hx => (hS x hx).1)).trans (hset.wider fun x _ hx => by subst hx; exact hb))).below hBw fun _ h => h

theorem append_smut {B : Nat} {w : World} {v : Value} {n : Nat} {xs : List Int} (x : Int) (h : SList B w v n xs) (hB : B ≤ w.heap.size) (hn : n < 33554431) :
    Calls Try.prog 66 #[v, .int .i64 x, .bool true] w (SPost B w v (n + 1) (xs ++ [x])) := by
  obtain ⟨b, d, o, p, S, rfl, hb, hS, h1, h2, h3⟩ := h
  have hat : ListAt w b n d o xs := ⟨p, h1, h2.node.inS fun _ _ _ => trivial, h3⟩
  have hbw : b < w.heap.size := lt_of_block h1
  have h2c : SNode w d (fun x => S x ∧ x < w.heap.size) (.iface (ty d) (.pointer (some ⟨p, 0, none⟩))) (win o xs) := h2.inS fun x h1 h2 => ⟨h1, h2⟩
  have hSc : ∀ x, (S x ∧ x < w.heap.size) → B ≤ x ∧ x ≠ b := fun x hx => hS x hx.1
  have hp := pow_le8 h3.2.2.1
  have hle := h3.2.1
  have hd7 := h3.2.2.1
  have hlocal : ∀ D, d ≤ D → loc ((o : Int) + xs.length) D = o + xs.length ∨ o + xs.length = 32 ^ (d + 1) := fun D hD => by
    rcases Nat.lt_or_ge (o + xs.length) (32 ^ (d + 1)) with h | h
    · left
      have e : ((o : Int) + xs.length) = ((o + xs.length : Nat) : Int) := by omega
      rw [e]
      exact loc_nat _ _ (Nat.lt_of_lt_of_le h (Nat.pow_le_pow_right (by decide) (by omega)))
    · right; omega
  rcases Nat.lt_or_ge (xs.length + o) (32 ^ d) with hlt | hge
  · have hloc : loc ((o : Int) + xs.length) d = o + xs.length := by
      rcases hlocal d (Nat.le_refl _) with h | h
      · exact h
      · have e : (32 : Nat) ^ (d + 1) = 32 ^ d * 32 := Nat.pow_succ _ _
        have := pos32 d
        omega
    refine (append_mut_w b p (fn 93 103 d) (ty d) o xs.length (32 ^ d) x w (fun W q V => q = p ∧ SNode V d (New (fun x => S x ∧ x < w.heap.size) W) (.iface (ty d) (.pointer (some ⟨p, 0, none⟩))) (upd (win o xs) (o + xs.length) x) ∧ But (fun x => S x ∧ x < w.heap.size) W V) (by omega) hlt h1
      (fun w' hb' hh => cap_any (n := n) (d := d) (o := o) (xs := xs) ⟨p, hh, ((h2c.but hb' fun x hx he => (hSc x hx).2 he).node).inS fun _ _ _ => trivial, h3⟩) (disp_ty disp_set0 disp_set1 d) (fun w' hb' => ?_)).mono ?_
    · have := set_mut ((o : Int) + xs.length) x d _ w' p _ (by omega) (h2c.but hb' fun x hx he => (hSc x hx).2 he)
      rw [hloc] at this
      refine this.mono ?_
      rintro e w'' ⟨rfl, k1, k2⟩
      exact ⟨p, rfl, ⟨rfl, k1, k2⟩, k2.block b (Nat.lt_of_lt_of_le hbw hb'.size) fun h => (hSc b h).2 rfl⟩
    · rintro e w' ⟨rfl, q, W, V, hW, ⟨rfl, hn', hV⟩, hh, rfl⟩
      refine smut_end (Nat.le_trans hB hW.size) hb hSc (Nat.lt_of_lt_of_le hbw hW.size) (hW.wider fun x _ hx => by subst hx; exact hb) hV hn' hh (by simp) (fun j y hy => ?_) (by simpa using dep_append_room h3 hlt hn) hB
      rw [win_append] at hy; exact hy
  · have hD := dep_append_grow h3 hge hn
    have hd6 : d ≤ 6 := by have := hD.2.2.1; omega
    have hloc : loc ((o : Int) + xs.length) (d + 1) = o + xs.length := by
      have e : ((o : Int) + xs.length) = ((o + xs.length : Nat) : Int) := by omega
      rw [e]
      have e2 : (32 : Nat) ^ (d + 1 + 1) = 32 ^ (d + 1) * 32 := Nat.pow_succ _ _
      have := pos32 (d + 1)
      exact loc_nat _ _ (by omega)
    refine (append_gmut_w b d p 103 (fn 91 101 d) (ty d) o xs.length (32 ^ d) x w (fun W q V => ∃ N, q = N ∧ w.heap.size ≤ N ∧ SNode V (d + 1) (New (fun x => (S x ∧ x < w.heap.size) ∨ x = N) W) (.iface 122 (.pointer (some ⟨N, 0, none⟩))) (upd (win o xs) (o + xs.length) x) ∧ But (fun x => (S x ∧ x < w.heap.size) ∨ x = N) W V)
      (by omega) (by omega) hge h1 (fun w' hb' => cap_any (hat.stay (Stay.of_below hb'))) (disp_ty disp_depth0 disp_depth1 d)
      (fun w' hb' => depth_any (Node.stay (Stay.of_below hb') _ _ _ h2.node)) disp_set1 (fun w' N hb' hNN hN => ?_)).mono ?_
    · have hr : SNode w' (d + 1) (fun x => (S x ∧ x < w.heap.size) ∨ x = N) (.iface 122 (.pointer (some ⟨N, 0, none⟩))) (win o xs) := by
        refine snew_root (S := fun x => S x ∧ x < w.heap.size) hN (by omega) (fun h => by have := h.2; omega) (h2c.but hb' fun x hx he => (hSc x hx).2 he) (fun j y hj hy => by rw [Nat.zero_mul, Nat.zero_add] at hy; exact hy) fun k j hk hk0 hj => ?_
        apply win_none
        have : 1 * 32 ^ (d + 1) ≤ k * 32 ^ (d + 1) := Nat.mul_le_mul_right _ (by omega)
        omega
      have := set_mut ((o : Int) + xs.length) x (d + 1) _ w' N _ (by omega) hr
      rw [hloc] at this
      refine this.mono ?_
      rintro e w'' ⟨rfl, k1, k2⟩
      refine ⟨N, rfl, ⟨N, rfl, hNN, k1, k2⟩, k2.block b (Nat.lt_of_lt_of_le hbw hb'.size) fun h => ?_⟩
      rcases h with h | h
      · exact (hSc b h).2 rfl
      · omega
    · rintro e w' ⟨rfl, q, W, V, r, hW, ⟨N, rfl, hNN, hn', hV⟩, hh, rfl⟩
      refine smut_end (d := d + 1) (Nat.le_trans hB hW.size) hb (fun x hx => ?_) (Nat.lt_of_lt_of_le hbw hW.size) (hW.wider fun x _ hx => by subst hx; exact hb) hV hn' hh (by simp) (fun j y hy => ?_) (by simpa using hD) hB
      · rcases hx with hx | hx
        · exact hSc x hx
        · subst hx; exact ⟨Nat.le_trans hB hNN, by omega⟩
      · rw [win_append] at hy; exact hy

theorem fresh_slist (w : World) : SList w.heap.size (fresh w) (.pointer (some ⟨w.heap.size + 1, 0, none⟩)) 0 [] :=
  ⟨w.heap.size + 1, 0, 0, w.heap.size, fun x => x = w.heap.size, rfl, by omega, fun x hx => ⟨by omega, by omega⟩, fresh_head w, fresh_node _ w rfl, by simp [Dep]⟩

set_option maxRecDepth 100000 in
set_option maxHeartbeats 800000 in
/-- NewList of any values -/
theorem new_list (sv : Value) (xs : List Int) (w : World) (hs : SlV w sv (xs.map (Value.int .i64))) (hn : xs.length < 33554431) : Calls Try.prog 55 #[sv] w (ListPost w xs.length xs) := by
  obtain ⟨a, c, rfl, hcells⟩ := hs
  have HCE := Lib.hid hcells
  have HF : Hid (SList w.heap.size (fresh w) (.pointer (some ⟨w.heap.size + 1, 0, none⟩)) 0 [] ∧ Below w.heap.size w (fresh w)) := ⟨fresh_slist w, fresh_below w⟩
  have HN := Lib.hid hn
  clear hcells hn
  rw [List.length_map]
  go_enter Try.func55, Try.ntmps55
  go_wp2_with fail
  change Code.wp _ _ _ _ (fresh w)
  go_loopg [5, 13] xs.length (fun k v5 v wr => ∃ j : Nat, j + k = xs.length ∧ v = .int .i64 (j : Int) ∧ SList w.heap.size wr (.pointer (some ⟨w.heap.size + 1, 0, none⟩)) j (xs.take j) ∧ Below w.heap.size w wr)
  case atStart => exact ⟨0, by omega, rfl, HF.out.1, HF.out.2⟩
  case round =>
    obtain ⟨j, hjk, rfl, hl, hb⟩ := hrel
    have HL := Lib.hid hl
    have HB := Lib.hid hb
    clear hl hb HF
    have hw1 : IntKind.i64.wrap ((j : Int) + 1) = (j : Int) + 1 := by have := HN.out; rw [IntKind.wrap_i64]; omega
    by_cases hlt : j < xs.length
    · have h1 : decide ((j : Int) < (xs.length : Int)) = true := by simp; omega
      obtain ⟨x, hx⟩ : ∃ x, xs[j]? = some x := ⟨xs[j], List.getElem?_eq_getElem hlt⟩
      obtain ⟨g, o, rfl, hc⟩ := HCE.out j (.int .i64 x) (by rw [List.getElem?_map, hx]; rfl)
      have hc' : wr.cell? ⟨g, o + j, none⟩ = some (.int .i64 x) := (HB.out.cell (World.block_lt_of_cell? w _ hc)).trans hc
      have HX := Lib.hid hx
      clear hc hx
      go_wp2_with fail
      refine (append_smut x HL.out HB.out.size (by have := HN.out; omega)).mono ?_
      rintro e w' ⟨rfl, hl, hb⟩
      have HL2 := Lib.hid hl
      have HB2 := Lib.hid hb
      clear hl hb
      go_wp2_with fail
      go_roundg (gk - 1)
      case measure => omega
      case rel =>
        refine ⟨j + 1, by omega, rfl, ?_, HB.out.trans HB2.out⟩
        rw [List.take_add_one, HX.out]
        exact HL2.out
    · have h1 : decide ((j : Int) < (xs.length : Int)) = false := by simp; omega
      have hj : j = xs.length := by omega
      subst hj
      go_wp2_with fail
      go_ret
      refine ⟨_, rfl, ?_, HB.out⟩
      have := HL.out.list
      rw [List.take_length] at this
      exact this

end Go.Proofs.Ytnahipfdnadccaa
