/- set in place at a node of whatever depth. Conditions of this file: none. -/
import Derived.Test.YtnahipfdnadccaaSepA
namespace Go.Proofs.Ytnahipfdnadccaa
open Go.RowKit

/-- a new node, all of it new -/
def NewPost (w : World) (d : Nat) (e : Ending) (w' : World) : Prop :=
  ∃ p, e = .returned (.iface (ty d) (.pointer (some ⟨p, 0, none⟩))) ∧ SNode w' d (fun b => w.heap.size ≤ b) (.iface (ty d) (.pointer (some ⟨p, 0, none⟩))) (fun _ => none) ∧ Below w.heap.size w w'

theorem snew_leaf (w : World) : SNode (w.alloc (Obj.cells (zleaf 0).toArray 110)) 0 (fun b => w.heap.size ≤ b) (.iface 111 (.pointer (some ⟨w.heap.size, 0, none⟩))) (fun _ => none) :=
  (new_leaf (fun _ => False) w w.heap.size rfl).inS fun _b h _ => h.elim (fun h => h.elim) (fun h => h)
theorem snew_branch (w : World) (d : Nat) : SNode (w.alloc (Obj.cells (zbranch (d + 1)).toArray 125)) (d + 1) (fun b => w.heap.size ≤ b) (.iface 122 (.pointer (some ⟨w.heap.size, 0, none⟩))) (fun _ => none) :=
  ⟨_, _, fun _ _ => False, rfl, heap_alloc_last w _, by rw [List.size_toArray, zbranch_len], by rw [List.getElem?_toArray]; rfl, fun k hk => ⟨_, by rw [List.getElem?_toArray]; exact zbranch_get (d + 1) k hk, .inl ⟨rfl, fun _ _ => rfl⟩⟩, Nat.le_refl _, fun _ _ h => h.elim, fun _ _ _ _ h => h.elim⟩

set_option maxRecDepth 100000 in
set_option maxHeartbeats 400000 in
theorem snew_w0 (w : World) : Calls Try.prog 104 #[.int .u64 0] w (NewPost w 0) := by
  go_enter Try.func104, Try.ntmps104
  go_wp2
  go_ret
  exact ⟨_, rfl, snew_leaf w, (Below.refl _ _).alloc (Nat.le_refl _) _⟩

set_option maxRecDepth 100000 in
set_option maxHeartbeats 400000 in
theorem snew_w1 (d : Nat) (w : World) (hd : d < 12) : Calls Try.prog 104 #[.int .u64 ((d : Int) + 1)] w (NewPost w (d + 1)) := by
  have h : ((d : Int) + 1 == 0) = false := by simp; omega
  go_enter Try.func104, Try.ntmps104
  go_wp2
  go_ret
  exact ⟨_, rfl, snew_branch w d, (Below.refl _ _).alloc (Nat.le_refl _) _⟩

theorem snew_any (d : Nat) (w : World) (hd : d < 12) : Calls Try.prog 104 #[.int .u64 (d : Int)] w (NewPost w d) := by
  cases d with
  | zero => exact snew_w0 w
  | succ d => exact snew_w1 d w (by omega)

/-- a branch whose child number s is another node now, its other children as they were -/
theorem branch_mut_end {w V : World} {S : Nat → Prop} {d p s q : Nat} {arr : Array Value} {T : Nat → Nat → Prop} {f g : Nat → Option Int} (hs : s < 32)
    (h2 : w.heap[p]? = some (.cells arr 125 (0, 0))) (h3 : arr.size = 33) (h4 : arr[0]? = some (.int .u64 ((d + 1 : Nat) : Int)))
    (h5 : ∀ k, k < 32 → ∃ c, arr[1 + k]? = some c ∧ ((c = .nilIface ∧ ∀ j, j < 32 ^ (d + 1) → f (k * 32 ^ (d + 1) + j) = none) ∨ SNode w d (T k) c (fun j => f (k * 32 ^ (d + 1) + j))))
    (h6 : S p) (h7 : ∀ k x, T k x → S x ∧ x ≠ p) (h8 : ∀ k k' x, k ≠ k' → T k x → ¬ T k' x)
    (hb : But (fun x => T s x ∨ w.heap.size ≤ x) w V) (hn : SNode V d (fun x => (T s x ∧ x < w.heap.size) ∨ w.heap.size ≤ x) (.iface (ty d) (.pointer (some ⟨q, 0, none⟩))) (fun j => g (s * 32 ^ (d + 1) + j)))
    (hg : ∀ k j, k ≠ s → j < 32 ^ (d + 1) → g (k * 32 ^ (d + 1) + j) = f (k * 32 ^ (d + 1) + j)) :
    MutPost S w (d + 1) p g (.returned (.iface 122 (.pointer (some ⟨p, 0, none⟩)))) (V.setCell ⟨p, 1 + s, none⟩ (.iface (ty d) (.pointer (some ⟨q, 0, none⟩)))) := by
  have hp : p < w.heap.size := lt_of_block h2
  have hTp : ¬ (T s p ∨ w.heap.size ≤ p) := fun h => h.elim (fun h => (h7 s p h).2 rfl) (fun h => by omega)
  have hV := hb.at h2 hTp
  have hset : But (· = p) V (V.setCell ⟨p, 1 + s, none⟩ (.iface (ty d) (.pointer (some ⟨q, 0, none⟩)))) := (But.refl (· = p) V).setCell (p := ⟨p, 1 + s, none⟩) (.inl rfl) _
  refine ⟨rfl, ⟨p, _, fun k x => if k = s then (T s x ∧ x < w.heap.size) ∨ w.heap.size ≤ x else T k x ∧ x < w.heap.size, rfl, heap_setCell_same _ _ _ _ _ _ hV, by simp [h3], ?_, fun k hk => ?_, .inl h6, fun k x hx => ?_, fun k k' x hkk hx hx' => ?_⟩, ?_⟩
  · rw [Array.getElem?_setIfInBounds_ne (by omega)]; exact h4
  · by_cases e : k = s
    · subst e
      refine ⟨_, by rw [Array.getElem?_setIfInBounds_self_of_lt (by rw [h3]; omega)], .inr ?_⟩
      simp only [if_true]
      refine hn.but hset fun x hx he => ?_
      subst he
      rcases hx with hx | hx
      · exact (h7 k x hx.1).2 rfl
      · omega
    · obtain ⟨c, hc, h⟩ := h5 k hk
      refine ⟨c, by rw [Array.getElem?_setIfInBounds_ne (by omega)]; exact hc, ?_⟩
      rcases h with ⟨h, h'⟩ | h
      · exact .inl ⟨h, fun j hj => (hg k j e hj).trans (h' j hj)⟩
      · right
        simp only [e, if_false]
        refine SNode.mono _ _ _ _ _ (((h.inS (S' := fun x => T k x ∧ x < w.heap.size) fun x h1 h2 => ⟨h1, h2⟩).but hb fun x hx h' => ?_).but hset fun x hx he => ?_) fun j y hj hy => (hg k j e hj) ▸ hy
        · rcases h' with h' | h'
          · exact h8 k s x e hx.1 h'
          · have := hx.2; omega
        · exact (h7 k x hx.1).2 he
  · by_cases e : k = s
    · subst e
      simp only [if_true] at hx
      rcases hx with hx | hx
      · exact ⟨.inl (h7 k x hx.1).1, (h7 k x hx.1).2⟩
      · exact ⟨.inr hx, by omega⟩
    · simp only [e, if_false] at hx
      exact ⟨.inl (h7 k x hx.1).1, (h7 k x hx.1).2⟩
  · by_cases e : k = s
    · by_cases e' : k' = s
      · omega
      · simp only [e, e', if_true, if_false] at hx hx'
        rcases hx with hx | hx
        · exact h8 s k' x (fun h => e' h.symm) hx.1 hx'.1
        · omega
    · by_cases e' : k' = s
      · simp only [e, e', if_true, if_false] at hx hx'
        rcases hx' with hx' | hx'
        · exact h8 s k x (fun h => e h.symm) hx'.1 hx.1
        · omega
      · simp only [e, e', if_false] at hx hx'
        exact h8 k k' x hkk hx.1 hx'.1
  · have h1 : But S w V := ⟨hb.os, hb.tape, hb.output, hb.size, fun k hk hk' => hb.block k hk fun h => h.elim (fun h => hk' (h7 s k h).1) (fun h => by omega)⟩
    exact h1.setCell (p := ⟨p, 1 + s, none⟩) (.inl h6) _

theorem set_mut (i x : Int) : ∀ (d : Nat) (S : Nat → Prop) (w : World) (p : Nat) (f : Nat → Option Int), d < 12 → SNode w d S (.iface (ty d) (.pointer (some ⟨p, 0, none⟩))) f →
    Calls Try.prog (fn 93 103 d) #[.pointer (some ⟨p, 0, none⟩), .int .i64 i, .int .i64 x, .bool true] w (MutPost S w d p (upd f (loc i d) x))
  | 0, S, w, p, f, _, h => leaf_mut i x h
  | d + 1, S, w, p, f, hd, ⟨b, arr, T, h1, h2, h3, h4, h5, h6, h7, h8⟩ => by
    simp only [Value.iface.injEq, Value.pointer.injEq, Option.some.injEq, Addr.mk.injEq, and_true] at h1
    obtain ⟨_, h1⟩ := h1
    subst h1
    have hlt := slot_lt i (d + 1)
    have hp : p < w.heap.size := lt_of_block h2
    have hg : ∀ k j, k ≠ slot i (d + 1) → j < 32 ^ (d + 1) → upd f (loc i (d + 1)) x (k * 32 ^ (d + 1) + j) = f (k * 32 ^ (d + 1) + j) := fun k j hk hj => by
      rw [loc_succ]; exact upd_other _ _ _ _ _ _ (fun h => hk h.symm) (loc_lt i d) _ hj
    have hgs : (fun j => upd f (loc i (d + 1)) x (slot i (d + 1) * 32 ^ (d + 1) + j)) = upd (fun j => f (slot i (d + 1) * 32 ^ (d + 1) + j)) (loc i d) x := by
      rw [loc_succ, upd_shift]
    obtain ⟨c, hc, h9⟩ := h5 (slot i (d + 1)) hlt
    rcases h9 with ⟨rfl, h9⟩ | h9
    · refine (branch_mut_n p arr i x (slot i (d + 1)) d w (fun w' v w'' => SNode w'' d (fun b => w'.heap.size ≤ b) (.iface (ty d) v) (fun _ => none))
        (fun W q V => But (fun x => w.heap.size ≤ x) W V ∧ SNode V d (fun x => w.heap.size ≤ x) (.iface (ty d) (.pointer (some ⟨q, 0, none⟩))) (upd (fun _ => none) (loc i d) x))
        hd (slot_eq i (d + 1)) hlt h2 h4 hc (ty d) (fn 93 103 d) (disp_ty disp_set0 disp_set1 d) (fun w' => ?_) (fun w' w2 q hb2 hn hb' => ?_)).mono ?_
      · refine (snew_any d w' (by omega)).mono ?_
        rintro e w'' ⟨q, rfl, hq, hb⟩
        exact ⟨q, rfl, hq, hb⟩
      · have hsz : w.heap.size ≤ w'.heap.size := hb'.size
        have hsz2 : w.heap.size ≤ w2.heap.size := hb2.size
        refine (set_mut i x d (fun b => w.heap.size ≤ b) w2.drew q _ (by omega) ((hn.inS fun b h _ => Nat.le_trans hsz h).stay (fun _ _ _ h _ => h))).mono ?_
        rintro e w'' ⟨rfl, hq, hb⟩
        refine ⟨q, rfl, ⟨hb, hq.inS fun b h _ => h.elim (fun h => h) (fun h => Nat.le_trans hsz2 h)⟩, ?_⟩
        exact hb.block p (Nat.lt_of_lt_of_le hp hsz2) (by omega)
      · rintro e w' ⟨rfl, q, W, V, hW, ⟨hV, hn⟩, -, rfl⟩
        have hbV : But (fun x => T (slot i (d + 1)) x ∨ w.heap.size ≤ x) w V := (But.of_below hW).trans (hV.wider fun _ _ h => .inr h)
        refine branch_mut_end hlt h2 h3 h4 h5 h6 h7 h8 hbV ?_ hg
        rw [hgs]
        refine SNode.mono _ _ _ _ _ (hn.inS fun b h _ => .inr h) fun j y hj hy => ?_
        unfold upd at hy ⊢
        split
        · rename_i e; rw [if_pos e] at hy; exact hy
        · rename_i e; rw [if_neg e] at hy; have hy' : f (slot i (d + 1) * 32 ^ (d + 1) + j) = some y := hy; rw [h9 j hj] at hy'; cases hy'
    · obtain ⟨q, rfl⟩ := h9.ptr
      refine (branch_mut_w p arr i x (slot i (d + 1)) d w
        (fun W q V => But (fun x => T (slot i (d + 1)) x ∨ w.heap.size ≤ x) W V ∧ SNode V d (fun x => (T (slot i (d + 1)) x ∧ x < w.heap.size) ∨ w.heap.size ≤ x) (.iface (ty d) (.pointer (some ⟨q, 0, none⟩))) (upd (fun j => f (slot i (d + 1) * 32 ^ (d + 1) + j)) (loc i d) x))
        hd (slot_eq i (d + 1)) hlt h2 h4 q (ty d) (fn 93 103 d) hc (disp_ty disp_set0 disp_set1 d) (fun w' hb' => ?_)).mono ?_
      · have hsz : w.heap.size ≤ w'.heap.size := hb'.size
        refine (set_mut i x d (fun x => T (slot i (d + 1)) x ∧ x < w.heap.size) w' q _ (by omega) ((h9.inS fun b h1 h2 => ⟨h1, h2⟩).stay (Stay.of_below hb'))).mono ?_
        rintro e w'' ⟨rfl, hq, hb⟩
        refine ⟨q, rfl, ⟨hb.wider fun _ _ h => .inl h.1, hq.inS fun b h _ => h.elim (fun h => .inl h) (fun h => .inr (Nat.le_trans hsz h))⟩, ?_⟩
        exact hb.block p (Nat.lt_of_lt_of_le hp hsz) (fun h => (h7 _ _ h.1).2 rfl)
      · rintro e w' ⟨rfl, q', W, V, hW, ⟨hV, hn⟩, -, rfl⟩
        refine branch_mut_end hlt h2 h3 h4 h5 h6 h7 h8 ((But.of_below hW).trans hV) ?_ hg
        rw [hgs]
        exact hn

end Go.Proofs.Ytnahipfdnadccaa
