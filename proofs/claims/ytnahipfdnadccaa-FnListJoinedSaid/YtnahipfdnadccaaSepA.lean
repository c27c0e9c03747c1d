/- nodes whose children share no block, and set in place at a node of whatever depth. Conditions of this file: none. -/
import Derived.Test.YtnahipfdnadccaaMutB
namespace Go.Proofs.Ytnahipfdnadccaa
open Go.RowKit

/-- v is a node of depth d, all of it in blocks of S, and no block of it lies on two ways -/
def SNode (w : World) : Nat → (Nat → Prop) → Value → (Nat → Option Int) → Prop
  | 0, S, v, f => Leaf S w v f
  | d + 1, S, v, f => ∃ (b : Nat) (arr : Array Value) (T : Nat → Nat → Prop), v = .iface 122 (.pointer (some ⟨b, 0, none⟩)) ∧ w.heap[b]? = some (.cells arr 125 (0, 0)) ∧ arr.size = 33 ∧
    arr[0]? = some (.int .u64 ((d + 1 : Nat) : Int)) ∧ (∀ k, k < 32 → ∃ c, arr[1 + k]? = some c ∧
      ((c = .nilIface ∧ ∀ j, j < 32 ^ (d + 1) → f (k * 32 ^ (d + 1) + j) = none) ∨ SNode w d (T k) c (fun j => f (k * 32 ^ (d + 1) + j)))) ∧ S b ∧
    (∀ k x, T k x → S x ∧ x ≠ b) ∧ (∀ k k' x, k ≠ k' → T k x → ¬ T k' x)

theorem SNode.node {w : World} : ∀ (d : Nat) (S : Nat → Prop) (v : Value) (f : Nat → Option Int), SNode w d S v f → Node S w d v f
  | 0, _, _, _, h => h
  | d + 1, S, v, f, ⟨b, arr, T, h1, h2, h3, h4, h5, h6, h7, _⟩ => ⟨b, arr, h1, h2, h3, h4, fun k hk => by
      obtain ⟨c, hc, h⟩ := h5 k hk
      refine ⟨c, hc, ?_⟩
      rcases h with h | h
      · exact .inl h
      · exact .inr ((SNode.node d (T k) c _ h).inS fun x hx _ => (h7 k x hx).1), h6⟩

theorem SNode.ptr {w : World} {d : Nat} {S : Nat → Prop} {v : Value} {f : Nat → Option Int} (h : SNode w d S v f) : ∃ p, v = .iface (ty d) (.pointer (some ⟨p, 0, none⟩)) := h.node.ptr

/-- a separated node stays where its blocks stay -/
theorem SNode.keep {w w' : World} : ∀ (d : Nat) (S S' : Nat → Prop) (v : Value) (f : Nat → Option Int), (∀ (b : Nat) (c : Array Value) (t : TypeId), S b → w.heap[b]? = some (Obj.cells c t (0, 0)) → (t = 110 ∨ t = 125) → w'.heap[b]? = some (Obj.cells c t (0, 0))) →
    (∀ b, S b → b < w.heap.size → S' b) → SNode w d S v f → SNode w' d S' v f
  | 0, S, S', v, f, h, hS, h0 => Node.stayS (S := S) (S' := S') h hS 0 v f h0
  | d + 1, S, S', v, f, h, hS, ⟨b, arr, T, h1, h2, h3, h4, h5, h6, h7, h8⟩ =>
    ⟨b, arr, fun k x => T k x ∧ x < w.heap.size, h1, h b arr 125 h6 h2 (.inr rfl), h3, h4, fun k hk => by
      obtain ⟨c, hc, h9⟩ := h5 k hk
      refine ⟨c, hc, ?_⟩
      rcases h9 with h9 | h9
      · exact .inl h9
      · exact .inr (SNode.keep d (T k) _ c _ (fun b c t hb => h b c t (h7 k b hb).1) (fun x hx hl => ⟨hx, hl⟩) h9), hS b h6 (lt_of_block h2),
      fun k x hx => ⟨hS x (h7 k x hx.1).1 hx.2, (h7 k x hx.1).2⟩, fun k k' x hk hx hx' => h8 k k' x hk hx.1 hx'.1⟩

theorem SNode.stay {w w' : World} {d : Nat} {S : Nat → Prop} {v : Value} {f : Nat → Option Int} (n : SNode w d S v f) (h : Stay w w') : SNode w' d S v f :=
  SNode.keep d S S v f (fun b c t _ h1 h2 => h b c t h1 (by rcases h2 with h2 | h2 <;> simp [h2])) (fun _ h _ => h) n
theorem SNode.inS {w : World} {d : Nat} {S S' : Nat → Prop} {v : Value} {f : Nat → Option Int} (n : SNode w d S v f) (h : ∀ b, S b → b < w.heap.size → S' b) : SNode w d S' v f :=
  SNode.keep d S S' v f (fun _ _ _ _ h1 _ => h1) h n
/-- blocks outside may turn -/
theorem SNode.but {w w' : World} {d : Nat} {S R : Nat → Prop} {v : Value} {f : Nat → Option Int} (n : SNode w d S v f) (h : But R w w') (hd : ∀ b, S b → ¬ R b) : SNode w' d S v f :=
  SNode.keep d S S v f (fun b _c _t hb h1 _ => h.at h1 (hd b hb)) (fun _ h _ => h) n

theorem SNode.mono {w : World} : ∀ (d : Nat) (S : Nat → Prop) (v : Value) (f g : Nat → Option Int), SNode w d S v f → (∀ j y, j < 32 ^ (d + 1) → g j = some y → f j = some y) → SNode w d S v g
  | 0, S, v, f, g, h0, h => Node.mono (S := S) 0 v f g h0 h
  | d + 1, S, v, f, g, ⟨b, arr, T, h1, h2, h3, h4, h5, h8⟩, h => ⟨b, arr, T, h1, h2, h3, h4, fun k hk => by
      obtain ⟨c, hc, h6⟩ := h5 k hk
      have hb : ∀ j, j < 32 ^ (d + 1) → k * 32 ^ (d + 1) + j < 32 ^ (d + 1 + 1) := fun j hj => by
        have e : (32 ^ (d + 1 + 1) : Nat) = 32 ^ (d + 1) * 32 := Nat.pow_succ _ _
        rw [e]
        have : (k + 1) * 32 ^ (d + 1) ≤ 32 * 32 ^ (d + 1) := Nat.mul_le_mul_right _ (by omega)
        rw [Nat.add_mul, Nat.one_mul] at this
        rw [Nat.mul_comm (32 ^ (d + 1)) 32]
        omega
      refine ⟨c, hc, ?_⟩
      rcases h6 with ⟨h6, h7⟩ | h6
      · refine .inl ⟨h6, fun j hj => ?_⟩
        cases hg : g (k * 32 ^ (d + 1) + j) with
        | none => rfl
        | some y => have := h _ y (hb j hj) hg; rw [h7 j hj] at this; cases this
      · exact .inr (SNode.mono d (T k) c _ _ h6 fun j y hj hg => h _ y (hb j hj) hg), h8⟩

/-- the post of a set in place -/
def MutPost (S : Nat → Prop) (w : World) (d p : Nat) (g : Nat → Option Int) (e : Ending) (w' : World) : Prop :=
  e = .returned (.iface (ty d) (.pointer (some ⟨p, 0, none⟩))) ∧ SNode w' d (New S w) (.iface (ty d) (.pointer (some ⟨p, 0, none⟩))) g ∧ But S w w'

theorem leaf_mut {S : Nat → Prop} {w : World} {p : Nat} {f : Nat → Option Int} (i x : Int) (h : SNode w 0 S (.iface 111 (.pointer (some ⟨p, 0, none⟩))) f) :
    Calls Try.prog 93 #[.pointer (some ⟨p, 0, none⟩), .int .i64 i, .int .i64 x, .bool true] w (MutPost S w 0 p (upd f (loc i 0) x)) := by
  obtain ⟨b, arr, occ, h1, h2, h3, h4, h5, h6, h7, h8⟩ := h
  simp only [Value.iface.injEq, Value.pointer.injEq, Option.some.injEq, Addr.mk.injEq, true_and, and_true] at h1
  subst h1
  obtain ⟨y, hy, hz⟩ := h7 (slot i 0) (slot_lt i 0)
  refine (leaf_mut_w p arr occ i x y (slot i 0) w (slot0 i) (slot_lt i 0) h2 h4 hy).mono ?_
  rintro e w' ⟨rfl, rfl⟩
  have hr := u32_or occ (2 ^ (slot i 0) % 4294967296)
  have hl := slot_lt i 0
  have k1 := heap_setCell_same w p (slot i 0) _ 110 (.int .i64 x) h2
  have k2 := heap_setCell_same _ p 32 _ 110 (.int .u32 (bits BinOp.or IntKind.u32 occ (2 ^ (slot i 0) % 4294967296))) k1
  refine ⟨rfl, ⟨p, _, _, rfl, k2, by simp [h3], ?_, hr.1, hr.2, ?_, .inl h8⟩, (((But.refl S w).setCell (p := ⟨p, slot i 0, none⟩) (.inl h8) _).setCell (p := ⟨p, 32, none⟩) (.inl h8) _).drew⟩
  · rw [Array.getElem?_setIfInBounds_self_of_lt (by simp [h3])]
  · intro k hk
    rw [Array.getElem?_setIfInBounds_ne (by omega), loc0]
    by_cases e : k = slot i 0
    · subst e
      rw [Array.getElem?_setIfInBounds_self_of_lt (by omega)]
      exact ⟨x, rfl, fun y hy => by unfold upd at hy; rw [if_pos rfl] at hy; cases hy; rfl⟩
    · rw [Array.getElem?_setIfInBounds_ne (fun h => e h.symm)]
      obtain ⟨y', hy', hz'⟩ := h7 k hk
      exact ⟨y', hy', fun y hy => by unfold upd at hy; rw [if_neg e] at hy; exact hz' y hy⟩

/-- behind a set in place of a branch: the child's own place is written -/
def BranchMut (w : World) (b j t : Nat) (R : World → Nat → World → Prop) (e : Ending) (w' : World) : Prop :=
  e = .returned (.iface 122 (.pointer (some ⟨b, 0, none⟩))) ∧ ∃ q W V, Below w.heap.size w W ∧ R W q V ∧ V.heap[b]? = w.heap[b]? ∧ w' = V.setCell ⟨b, 1 + j, none⟩ (.iface t (.pointer (some ⟨q, 0, none⟩)))

set_option maxRecDepth 100000 in
set_option maxHeartbeats 800000 in
theorem branch_mut_w (b : Nat) (arr : Array Value) (i x : Int) (j d : Nat) (w : World) (R : World → Nat → World → Prop) (hd : d + 1 < 12) (hb : bits BinOp.and IntKind.i64 (i / 2 ^ ((d + 1) * 5)) 31 = j) (hj : j < 32)
    (hblk : w.heap[b]? = some (.cells arr 125 (0, 0))) (hc0 : arr[0]? = some (.int .u64 ((d + 1 : Nat) : Int))) (p : Nat) (t fid : Nat) (hc : arr[1 + j]? = some (.iface t (.pointer (some ⟨p, 0, none⟩))))
    (h0 : Disp t fid "pub-frond/pub/immutable.set")
    (hcall : ∀ w', Below w.heap.size w w' → Calls Try.prog fid #[.pointer (some ⟨p, 0, none⟩), .int .i64 i, .int .i64 x, .bool true] w' (fun e w'' => ∃ q, e = .returned (.iface t (.pointer (some ⟨q, 0, none⟩))) ∧ R w' q w'' ∧ w''.heap[b]? = w'.heap[b]?)) :
    Calls Try.prog 103 #[.pointer (some ⟨b, 0, none⟩), .int .i64 i, .int .i64 x, .bool true] w (BranchMut w b j t R) := by
  have hcell0 := cell_at hblk hc0
  have hcellj := cell_at hblk hc
  have HB := Lib.hid hblk
  obtain ⟨h1, h2, h3⟩ := h0
  have H4 := Lib.hid hcall; clear hcall
  go_enter Try.func103, Try.ntmps103
  go_wp2_with fail
  go_region_with (first | ((with_reducible refine (H4.out _ (Below.refl _ w).drew).mono ?_); rintro e w' ⟨q, rfl, hr, hh⟩; have hz' : w'.heap[b]? = some (.cells arr 125 (0, 0)) := hh.trans HB.out; have hc' := cell_at hz' hc; have hf' : w'.frozen? ⟨b, 1 + j, none⟩ = false := frozen_of_row _ _ _ _ _ hz'; have HR := Lib.hid (And.intro hr hh); clear hr hh hz'))
  go_wp2
  go_ret
  exact ⟨rfl, q, _, w', (Below.refl _ w).drew, HR.out.1, HR.out.2, rfl⟩

set_option maxRecDepth 100000 in
set_option maxHeartbeats 800000 in
theorem branch_mut_n (b : Nat) (arr : Array Value) (i x : Int) (j d : Nat) (w : World) (N : World → Value → World → Prop) (R : World → Nat → World → Prop) (hd : d + 1 < 12) (hb : bits BinOp.and IntKind.i64 (i / 2 ^ ((d + 1) * 5)) 31 = j) (hj : j < 32)
    (hblk : w.heap[b]? = some (.cells arr 125 (0, 0))) (hc0 : arr[0]? = some (.int .u64 ((d + 1 : Nat) : Int))) (hc : arr[1 + j]? = some .nilIface)
    (t fid : Nat) (h0 : Disp t fid "pub-frond/pub/immutable.set")
    (hnew : ∀ w', Calls Try.prog 104 #[.int .u64 (d : Int)] w' (fun e w'' => ∃ p, e = .returned (.iface t (.pointer (some ⟨p, 0, none⟩))) ∧ N w' (.pointer (some ⟨p, 0, none⟩)) w'' ∧ Below w'.heap.size w' w''))
    (hcall : ∀ w' w2 (p : Nat), Below w.heap.size w w2 → N w' (.pointer (some ⟨p, 0, none⟩)) w2 → Below w.heap.size w w' → Calls Try.prog fid #[.pointer (some ⟨p, 0, none⟩), .int .i64 i, .int .i64 x, .bool true] w2.drew (fun e w'' => ∃ q, e = .returned (.iface t (.pointer (some ⟨q, 0, none⟩))) ∧ R w2.drew q w'' ∧ w''.heap[b]? = w2.heap[b]?)) :
    Calls Try.prog 103 #[.pointer (some ⟨b, 0, none⟩), .int .i64 i, .int .i64 x, .bool true] w (BranchMut w b j t R) := by
  have hcell0 := cell_at hblk hc0
  have hcellj := cell_at hblk hc
  have HB := Lib.hid hblk
  obtain ⟨h1, h2, h3⟩ := h0
  have H4 := Lib.hid hcall; clear hcall
  have H5 := Lib.hid hnew; clear hnew
  go_enter Try.func103, Try.ntmps103
  go_wp2_with fail
  refine (depth_w1 b _ _ hcell0).mono ?_
  rintro e w' ⟨rfl, rfl⟩
  go_wp2_with fail
  refine (H5.out _).mono ?_
  rintro e w1 ⟨p, rfl, hn1, hb1⟩
  have hB1 : Below w.heap.size w w1 := hb1
  have H6 := Lib.hid (H4.out _ _ _ hB1 hn1 (Below.refl _ w))
  have HB1 : Hid (w1.heap[b]? = some (.cells arr 125 (0, 0))) := (hB1.block b (lt_of_block HB.out)).trans HB.out
  have HBB := Lib.hid hB1
  clear hn1 hb1 hB1 hcell0 hcellj hblk
  go_wp2_with fail
  go_region_with (first | ((with_reducible refine H6.out.mono ?_); rintro e w' ⟨q, rfl, hr, hh⟩; have hz' : w'.heap[b]? = some (.cells arr 125 (0, 0)) := hh.trans HB1.out; have hc' := cell_at hz' hc; have hf' : w'.frozen? ⟨b, 1 + j, none⟩ = false := frozen_of_row _ _ _ _ _ hz'; have HR := Lib.hid (And.intro hr hz'); clear hr hh hz'))
  go_wp2
  go_ret
  exact ⟨rfl, q, _, w', HBB.out.drew, HR.out.1, HR.out.2.trans HB.out.symm, rfl⟩

end Go.Proofs.Ytnahipfdnadccaa
