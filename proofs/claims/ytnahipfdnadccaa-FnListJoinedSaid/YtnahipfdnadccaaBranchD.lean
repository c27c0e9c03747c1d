/- A branch: delete behind a place (as a copy); contains and delete at nodes of whatever depth. -/
import Derived.Test.YtnahipfdnadccaaBranchC
namespace Go.Proofs.Ytnahipfdnadccaa
open Go.RowKit

set_option maxRecDepth 100000 in
set_option maxHeartbeats 1600000 in
theorem branch_da_w (S : Nat → Prop) (g : Nat → Option Int) (b : Nat) (arr : Array Value) (i : Int) (j d : Nat) (w : World) (hd : d + 1 < 12) (hb : bits BinOp.and IntKind.i64 (i / 2 ^ ((d + 1) * 5)) 31 = j) (hj : j < 32)
    (hblk : w.heap[b]? = some (.cells arr 125 (0, 0))) (hs : arr.size = 33) (hone : arr.all (·.oneCell') = true) (hc0 : arr[0]? = some (.int .u64 ((d + 1 : Nat) : Int))) (hk : Kids arr (ty d)) (t fid : Nat) (ht : t = ty d)
    (h0 : Disp t fid "pub-frond/pub/immutable.deleteAfter")
    (hcb : Calls Try.prog 97 #[.pointer (some ⟨b, 0, none⟩), .int .i64 i] w (SomeB w))
    (hcall : ∀ p w', arr[1 + j]? = some (.iface t (.pointer (some ⟨p, 0, none⟩))) → Below w.heap.size w w' → Calls Try.prog fid #[.pointer (some ⟨p, 0, none⟩), .int .i64 i, .bool false] w' (DelPost (fun b => New S w b ∧ b < w.heap.size) w' d g)) :
    Calls Try.prog 99 #[.pointer (some ⟨b, 0, none⟩), .int .i64 i, .bool false] w (BranchDel S w b arr j d 0 (j + 1) g) := by
  have hcell0 := cell_at hblk hc0
  obtain ⟨h1, h2, h3⟩ := h0
  have H4 := Lib.hid hcall; clear hcall
  have H5 := Lib.hid hcb; clear hcb
  have HT := Lib.hid ht; clear ht
  have HK := Lib.hid hk; clear hk
  go_enter Try.func99, Try.ntmps99
  go_wp2_with fail
  refine H5.out.mono ?_
  rintro e w' ⟨m, rfl, rfl⟩
  cases m
  · go_wp2
    go_ret
    exact ⟨b, arr, rfl, hblk, .inl rfl, Below.refl _ _, hs, rfl, fun k _ _ => .inl rfl, .inl rfl⟩
  · go_wp2
    change Code.wp _ _ _ _ (w.alloc (Obj.cells (zbranch (d + 1)).toArray 125))
    have hZ : Hid ((w.alloc (Obj.cells (zbranch (d + 1)).toArray 125)).heap[w.heap.size]? = some (.cells (zbranch (d + 1)).toArray 125 (0, 0))) := heap_alloc_last w _
    have hB : Below w.heap.size w (w.alloc (Obj.cells (zbranch (d + 1)).toArray 125)) := (Below.refl _ _).alloc (Nat.le_refl _) _
    generalize hW : w.alloc (Obj.cells (zbranch (d + 1)).toArray 125) = W at hZ hB ⊢
    clear hW
    have hsl1 := slice123_h w.heap.size 1 j hj
    have hsl2 := slice123_h b 1 j hj
    have hw1 : IntKind.i64.wrap ((j : Int) + 1) = (j : Int) + 1 := by rw [IntKind.wrap_i64]; omega
    refine region_tail 12 (by kernel_rfl) (by kernel_rfl) ?_
    simp only [List.take_succ_cons, List.take_zero, List.drop_succ_cons, List.drop_zero]
    repeat still_step
    refine wpStill_nil ?_
    clear hsl1 hsl2 hw1
    have hcs := fun (k : Nat) (v : Value) (h : ((arr.toList.drop (1 + 0)).take (j + 1 - 0))[k]? = some v) => (seg_get h).2
    refine wpList_copy_splice rfl (.tmp 48) (.tmp 54) 145 145 rfl 100 Try.underlying145 size100 _ _ _ _ _ _ rfl rfl w.heap.size (1 + 0) (zbranch (d + 1)) 125 hZ ((arr.toList.drop (1 + 0)).take (j + 1 - 0)) ?c1 ?c2 ?c3 ?c4 w.heap.size w hB.drew (Nat.le_refl _) ?_
    case c1 => rw [seg_len (by omega)]; exact (Nat.min_self _).symm
    case c2 =>
      intro _
      refine ⟨rfl, _, rfl, fun k v hv => ?_⟩
      rw [addr_add]
      exact (hB.drew.cell (p := ⟨b, 1 + 0 + k, none⟩) (lt_of_block hblk)).trans (cell_at hblk (hcs k v hv))
    case c3 => rw [seg_len (by omega), zbranch_len]; omega
    case c4 => exact seg_one hone
    clear hcs hZ hB W
    intro W hZ0 hB0
    have hZ : Hid (W.heap[w.heap.size]? = some (.cells (kept arr d 0 (j + 1)).toArray 125 (0, 0))) := hZ0
    have hB := Lib.hid hB0
    clear hZ0 hB0
    have hsz : Hid (w.heap.size < W.heap.size) := lt_of_block hZ.out
    have hget := kept_get (arr := arr) d (lo := 0) (hi := j + 1) hs (by omega) (by omega) (1 + j)
    rw [if_pos (by omega)] at hget
    rcases HK.out j hj with hc | ⟨p, hc⟩
    · have hcj := cell_at hZ.out (hget.trans hc)
      clear hget
      go_wp2
      go_ret
      exact branch_del_nil hs hc0 (by omega) (by omega) (by omega) hZ.out hB.out
    · have hcj := cell_at hZ.out (hget.trans hc)
      rw [← HT.out] at hcj hc
      have hget2 := Lib.hid (hget.trans hc)
      have H6 : Hid (Calls Try.prog fid #[.pointer (some ⟨p, 0, none⟩), .int .i64 i, .bool false] W.drew (DelPost (fun b => New S w b ∧ b < w.heap.size) W.drew d g)) := H4.out p _ hc hB.out.drew
      clear hget
      go_wp2
      go_region_with (first | ((with_reducible refine H6.out.mono ?_); rintro e w' ⟨v', rfl, hn, hb⟩; obtain ⟨q, rfl⟩ := hn.ptr; have hz' := after_cell hZ hb; have hc' := cell_at hz' hget2.out; have hf' : w'.frozen? ⟨w.heap.size, 1 + j, none⟩ = false := frozen_of_row _ _ _ _ _ hz'; have HN := Lib.hid (And.intro hn hb); have HZ' := Lib.hid hz'; clear hn hb hz'))
      go_wp2
      go_ret
      exact branch_del_set hs hc0 (by omega) (by omega) (by omega) HZ'.out hB.out hsz.out HN.out.1 HN.out.2

theorem kids_of {S : Nat → Prop} {w : World} {d : Nat} {arr : Array Value} {f : Nat → Option Int}
    (h5 : ∀ k, k < 32 → ∃ c, arr[1 + k]? = some c ∧ ((c = .nilIface ∧ ∀ j, j < 32 ^ (d + 1) → f (k * 32 ^ (d + 1) + j) = none) ∨ Node S w d c (fun j => f (k * 32 ^ (d + 1) + j)))) : Kids arr (ty d) := fun k hk => by
  obtain ⟨c, hc, h⟩ := h5 k hk
  rcases h with ⟨rfl, _⟩ | h
  · exact .inl hc
  · obtain ⟨p, rfl⟩ := h.ptr; exact .inr ⟨p, hc⟩

/-- the child at k, where it is a node -/
theorem kid_at {S : Nat → Prop} {w : World} {d p k : Nat} {arr : Array Value} {f : Nat → Option Int}
    (h5 : ∀ k, k < 32 → ∃ c, arr[1 + k]? = some c ∧ ((c = .nilIface ∧ ∀ j, j < 32 ^ (d + 1) → f (k * 32 ^ (d + 1) + j) = none) ∨ Node S w d c (fun j => f (k * 32 ^ (d + 1) + j)))) (hk : k < 32)
    {t : Nat} (h : arr[1 + k]? = some (.iface t (.pointer (some ⟨p, 0, none⟩)))) : Node S w d (.iface (ty d) (.pointer (some ⟨p, 0, none⟩))) (fun j => f (k * 32 ^ (d + 1) + j)) := by
  obtain ⟨c, hc, h7⟩ := h5 k hk
  rw [h] at hc
  obtain rfl := Option.some.inj hc
  rcases h7 with ⟨h7, _⟩ | h7
  · cases h7
  · obtain ⟨q, hq⟩ := h7.ptr
    simp only [Value.iface.injEq] at hq
    rw [← hq.1]; exact h7

theorem cb_any {S : Nat → Prop} {w : World} (hg : Glob w) (i : Int) : ∀ (d : Nat) (p : Nat) (f : Nat → Option Int), d < 12 → Node S w d (.iface (ty d) (.pointer (some ⟨p, 0, none⟩))) f →
    Calls Try.prog (fn 88 98 d) #[.pointer (some ⟨p, 0, none⟩), .int .i64 i] w (SomeB w)
  | 0, p, f, _, ⟨b, arr, occ, h1, h2, h3, h4, h5, h6, h7, h8⟩ => by
    simp only [Value.iface.injEq, Value.pointer.injEq, Option.some.injEq, Addr.mk.injEq, and_true] at h1
    obtain ⟨_, h1⟩ := h1
    subst h1
    exact leaf_cb_w p i occ w hg (cell_at h2 h4)
  | d + 1, p, f, hd, ⟨b, arr, h1, h2, h3, h4, h5, h6⟩ => by
    simp only [Value.iface.injEq, Value.pointer.injEq, Option.some.injEq, Addr.mk.injEq, and_true] at h1
    obtain ⟨_, h1⟩ := h1
    subst h1
    exact branch_cb_w p arr i (slot i (d + 1)) (d + 1) (ty d) (fn 88 98 d) w hd (slot_eq i (d + 1)) (slot_lt i (d + 1)) h2 h4 (kids_of h5) (disp_ty disp_containsBefore0 disp_containsBefore1 d)
      fun q hq => cb_any hg i d q _ (by omega) (kid_at h5 (slot_lt i (d + 1)) hq)

theorem ca_any {S : Nat → Prop} {w : World} (i : Int) : ∀ (d : Nat) (p : Nat) (f : Nat → Option Int), d < 12 → Node S w d (.iface (ty d) (.pointer (some ⟨p, 0, none⟩))) f →
    Calls Try.prog (fn 87 97 d) #[.pointer (some ⟨p, 0, none⟩), .int .i64 i] w (SomeB w)
  | 0, p, f, _, ⟨b, arr, occ, h1, h2, h3, h4, h5, h6, h7, h8⟩ => by
    simp only [Value.iface.injEq, Value.pointer.injEq, Option.some.injEq, Addr.mk.injEq, and_true] at h1
    obtain ⟨_, h1⟩ := h1
    subst h1
    exact leaf_ca_w p i occ w h5 h6 (cell_at h2 h4)
  | d + 1, p, f, hd, ⟨b, arr, h1, h2, h3, h4, h5, h6⟩ => by
    simp only [Value.iface.injEq, Value.pointer.injEq, Option.some.injEq, Addr.mk.injEq, and_true] at h1
    obtain ⟨_, h1⟩ := h1
    subst h1
    exact branch_ca_w p arr i (slot i (d + 1)) (d + 1) (ty d) (fn 87 97 d) w hd (slot_eq i (d + 1)) (slot_lt i (d + 1)) h2 h4 (kids_of h5) (disp_ty disp_containsAfter0 disp_containsAfter1 d)
      fun q hq => ca_any i d q _ (by omega) (kid_at h5 (slot_lt i (d + 1)) hq)

/-- a delete in a branch, in words of nodes: what is asked of the new node lies within what was there -/
theorem BranchDel.node {S : Nat → Prop} {w : World} {b : Nat} {arr : Array Value} {j d lo hi : Nat} {f g gj : Nat → Option Int} {e : Ending} {w' : World} (h : BranchDel S w b arr j d lo hi gj e w') (hS : S b)
    (h4 : arr[0]? = some (.int .u64 ((d + 1 : Nat) : Int))) (h5 : ∀ k, k < 32 → ∃ c, arr[1 + k]? = some c ∧ ((c = .nilIface ∧ ∀ j, j < 32 ^ (d + 1) → f (k * 32 ^ (d + 1) + j) = none) ∨ Node S w d c (fun j => f (k * 32 ^ (d + 1) + j))))
    (hg : ∀ k y, g k = some y → f k = some y) (hout : ∀ k l, k < 32 → k ≠ j → ¬ (lo ≤ k ∧ k < hi) → l < 32 ^ (d + 1) → g (k * 32 ^ (d + 1) + l) = none)
    (hj : ∀ l y, l < 32 ^ (d + 1) → g (j * 32 ^ (d + 1) + l) = some y → gj l = some y) : DelPost S w (d + 1) g e w' := by
  obtain ⟨n, arr', rfl, hz, hn, hb, hs, h0, hk, hjj⟩ := h
  refine ⟨_, rfl, ⟨n, arr', rfl, hz, hs, h0.trans h4, fun k hlt => ?_, by rcases hn with h | h; exact .inl (h ▸ hS); exact .inr h⟩, hb⟩
  have old : arr'[1 + k]? = arr[1 + k]? → ∃ c, arr'[1 + k]? = some c ∧ ((c = .nilIface ∧ ∀ j, j < 32 ^ (d + 1) → g (k * 32 ^ (d + 1) + j) = none) ∨ Node (New S w) w' d c (fun j => g (k * 32 ^ (d + 1) + j))) := fun he => by
    obtain ⟨c, hc, h7⟩ := h5 k hlt
    refine ⟨c, he.trans hc, ?_⟩
    rcases h7 with ⟨h7, h8⟩ | h7
    · refine .inl ⟨h7, fun l hl => ?_⟩
      cases hv : g (k * 32 ^ (d + 1) + l) with
      | none => rfl
      | some y => have := hg _ _ hv; rw [h8 l hl] at this; cases this
    · exact .inr (Node.mono _ _ _ _ ((Node.stay (Stay.of_below hb) _ _ _ h7).inS fun _ h _ => .inl h) fun l y _ hy => hg _ _ hy)
  by_cases e : k = j
  · subst e
    rcases hjj with h | ⟨v', hv, hnode⟩
    · exact old h
    · exact ⟨v', hv, .inr (Node.mono _ _ _ _ hnode fun l y hl hy => hj l y hl hy)⟩
  · rcases hk k hlt e with h | ⟨h, hnil⟩
    · exact old h
    · exact ⟨_, hnil, .inl ⟨rfl, fun l hl => hout k l hlt e h hl⟩⟩

theorem mul_mono_lt {k s M l r : Nat} (h : k < s) (hl : l < M) : k * M + l < s * M + r := by
  have : (k + 1) * M ≤ s * M := Nat.mul_le_mul_right _ h
  rw [Nat.add_mul, Nat.one_mul] at this
  omega

theorem db_any (i : Int) : ∀ (d : Nat) (S : Nat → Prop) (w : World) (p : Nat) (f : Nat → Option Int), Glob w → d < 12 → Node S w d (.iface (ty d) (.pointer (some ⟨p, 0, none⟩))) f →
    Calls Try.prog (fn 90 100 d) #[.pointer (some ⟨p, 0, none⟩), .int .i64 i, .bool false] w (DelPost S w d (before i d f))
  | 0, S, w, p, f, hg, _, h => leaf_db i hg h
  | d + 1, S, w, p, f, hg, hd, hN => by
    have hcb := cb_any hg i (d + 1) p f hd hN
    obtain ⟨b, arr, h1, h2, h3, h4, h5, h6⟩ := hN
    simp only [Value.iface.injEq, Value.pointer.injEq, Option.some.injEq, Addr.mk.injEq, and_true] at h1
    obtain ⟨_, h1⟩ := h1
    subst h1
    refine (branch_db_w S (before i d (fun j => f (slot i (d + 1) * 32 ^ (d + 1) + j))) p arr i (slot i (d + 1)) d w hd (slot_eq i (d + 1)) (slot_lt i (d + 1)) h2 h3 (branch_one h3 h4 h5) h4 (kids_of h5) (ty d) (fn 90 100 d) rfl (disp_ty disp_deleteBefore0 disp_deleteBefore1 d) hcb
      (fun q w' hq hb => db_any i d _ w' q _ (hg.stay (Stay.of_below hb)) (by omega) (Node.stay (Stay.of_below hb) _ _ _ ((kid_at h5 (slot_lt i (d + 1)) hq).inS fun b h1 h2 => ⟨.inl h1, h2⟩)))).mono fun e w' h => ?_
    refine h.node h6 h4 h5 (fun k y hy => ?_) (fun k l hk hkj hno hl => ?_) (fun l y hl hy => ?_)
    · unfold before at hy; split at hy
      · exact hy
      · cases hy
    · unfold before
      rw [if_neg]
      rw [loc_succ]
      have := mul_mono_lt (r := loc i d) (show k < slot i (d + 1) by omega) hl
      omega
    · unfold before at hy ⊢
      rw [loc_succ] at hy
      split at hy
      · rw [if_pos (by omega)]; exact hy
      · cases hy

theorem da_any (i : Int) : ∀ (d : Nat) (S : Nat → Prop) (w : World) (p : Nat) (f : Nat → Option Int), d < 12 → Node S w d (.iface (ty d) (.pointer (some ⟨p, 0, none⟩))) f →
    Calls Try.prog (fn 89 99 d) #[.pointer (some ⟨p, 0, none⟩), .int .i64 i, .bool false] w (DelPost S w d (behind i d f))
  | 0, S, w, p, f, _, h => leaf_da i h
  | d + 1, S, w, p, f, hd, hN => by
    have hca := ca_any i (d + 1) p f hd hN
    obtain ⟨b, arr, h1, h2, h3, h4, h5, h6⟩ := hN
    simp only [Value.iface.injEq, Value.pointer.injEq, Option.some.injEq, Addr.mk.injEq, and_true] at h1
    obtain ⟨_, h1⟩ := h1
    subst h1
    refine (branch_da_w S (behind i d (fun j => f (slot i (d + 1) * 32 ^ (d + 1) + j))) p arr i (slot i (d + 1)) d w hd (slot_eq i (d + 1)) (slot_lt i (d + 1)) h2 h3 (branch_one h3 h4 h5) h4 (kids_of h5) (ty d) (fn 89 99 d) rfl (disp_ty disp_deleteAfter0 disp_deleteAfter1 d) hca
      (fun q w' hq hb => da_any i d _ w' q _ (by omega) (Node.stay (Stay.of_below hb) _ _ _ ((kid_at h5 (slot_lt i (d + 1)) hq).inS fun b h1 h2 => ⟨.inl h1, h2⟩)))).mono fun e w' h => ?_
    refine h.node h6 h4 h5 (fun k y hy => ?_) (fun k l hk hkj hno hl => ?_) (fun l y hl hy => ?_)
    · unfold behind at hy; split at hy
      · exact hy
      · cases hy
    · unfold behind
      rw [if_neg]
      rw [loc_succ]
      have := mul_mono_lt (r := l) (show slot i (d + 1) < k by omega) (loc_lt i d)
      omega
    · unfold behind at hy ⊢
      rw [loc_succ] at hy
      split at hy
      · rw [if_pos (by omega)]; exact hy
      · cases hy

end Go.Proofs.Ytnahipfdnadccaa
