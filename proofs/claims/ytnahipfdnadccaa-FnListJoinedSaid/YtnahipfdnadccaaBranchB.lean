/- set at a node of whatever depth; what a branch has ahead of a place or behind it; delete (as a copy). -/
import Derived.Test.YtnahipfdnadccaaBranch
import Derived.LoopTactic
import Derived.BigQuiet
namespace Go.Proofs.Ytnahipfdnadccaa
open Go.RowKit

theorem branch_one {S : Nat → Prop} {w : World} {d : Nat} {arr : Array Value} {f : Nat → Option Int} (hs : arr.size = 33) (h4 : arr[0]? = some (.int .u64 ((d + 1 : Nat) : Int)))
    (h5 : ∀ k, k < 32 → ∃ c, arr[1 + k]? = some c ∧ ((c = .nilIface ∧ ∀ j, j < 32 ^ (d + 1) → f (k * 32 ^ (d + 1) + j) = none) ∨ Node S w d c (fun j => f (k * 32 ^ (d + 1) + j)))) : arr.all (·.oneCell') = true :=
  arr_one hs fun k hk => by
    cases k with
    | zero => exact ⟨_, h4, rfl⟩
    | succ k =>
      obtain ⟨c, hc, h⟩ := h5 k (by omega)
      rw [Nat.add_comm k 1]
      rcases h with ⟨rfl, _⟩ | h
      · exact ⟨_, hc, rfl⟩
      · obtain ⟨p, rfl⟩ := h.ptr; exact ⟨_, hc, rfl⟩

theorem new_any (S : Nat → Prop) (d : Nat) (w : World) (hd : d < 12) : Calls Try.prog 104 #[.int .u64 (d : Int)] w (DelPost S w d (fun _ => none)) := by
  cases d with
  | zero => exact new_w0 S w
  | succ d => exact new_w1 S d w (by omega)

theorem set_any (i x : Int) : ∀ (d : Nat) (S : Nat → Prop) (w : World) (p : Nat) (f : Nat → Option Int), d < 12 → Node S w d (.iface (ty d) (.pointer (some ⟨p, 0, none⟩))) f →
    Calls Try.prog (fn 93 103 d) #[.pointer (some ⟨p, 0, none⟩), .int .i64 i, .int .i64 x, .bool false] w (SetPost S w d f (loc i d) x)
  | 0, S, w, p, f, _, h => leaf_set i x h
  | d + 1, S, w, p, f, hd, ⟨b, arr, h1, h2, h3, h4, h5, h6⟩ => by
    simp only [Value.iface.injEq, Value.pointer.injEq, Option.some.injEq, Addr.mk.injEq, and_true] at h1
    obtain ⟨_, h1⟩ := h1
    subst h1
    have hone := branch_one h3 h4 h5
    obtain ⟨c, hc, h7⟩ := h5 (slot i (d + 1)) (slot_lt i (d + 1))
    have key : ∀ e w', BranchSet S w arr (slot i (d + 1)) d (upd (fun j => f (slot i (d + 1) * 32 ^ (d + 1) + j)) (loc i d) x) e w' → SetPost S w (d + 1) f (loc i (d + 1)) x e w' := by
      rintro e w' ⟨n, v', rfl, hn, hz, hv, hb⟩
      refine ⟨_, rfl, ⟨n, _, rfl, hz, by simp [h3], ?_, fun k hk => ?_, .inr hn⟩, hb⟩
      · rw [Array.getElem?_setIfInBounds_ne (by omega)]; exact h4
      · by_cases e : k = slot i (d + 1)
        · subst e
          refine ⟨v', ?_, .inr ?_⟩
          · rw [Array.getElem?_setIfInBounds_self_of_lt (by rw [h3]; omega)]
          · rw [loc_succ, upd_shift]; exact hv
        · obtain ⟨c', hc', h8⟩ := h5 k hk
          refine ⟨c', ?_, ?_⟩
          · rw [Array.getElem?_setIfInBounds_ne (by omega)]; exact hc'
          · have hu : ∀ j, j < 32 ^ (d + 1) → upd f (loc i (d + 1)) x (k * 32 ^ (d + 1) + j) = f (k * 32 ^ (d + 1) + j) := fun j hj => by
              rw [loc_succ]; exact upd_other _ _ _ _ _ _ (fun h => e h.symm) (loc_lt i d) _ hj
            rcases h8 with ⟨h8, h9⟩ | h8
            · exact .inl ⟨h8, fun j hj => (hu j hj).trans (h9 j hj)⟩
            · refine .inr (Node.mono _ _ _ _ ((Node.stay (Stay.of_below hb) _ _ _ h8).inS fun b hS _ => .inl hS) fun j y hj hy => ?_)
              rw [hu j hj] at hy; exact hy
    rcases h7 with ⟨rfl, h7⟩ | h7
    · refine (branch_set_n S (loc i d) p arr i x (slot i (d + 1)) d w hd (slot_eq i (d + 1)) (slot_lt i (d + 1)) h2 h3 hone h4 hc (ty d) (fn 93 103 d) rfl (disp_ty disp_set0 disp_set1 d) (fun w' => new_any S d w' (by omega))
        (fun w' q S' hq => set_any i x d S' w' q _ (by omega) hq)).mono fun e w' h => key e w' ?_
      obtain ⟨n, v', a1, a2, a3, a4, a5⟩ := h
      refine ⟨n, v', a1, a2, a3, Node.mono _ _ _ _ a4 (fun j y hj hy => ?_), a5⟩
      unfold upd at hy ⊢
      split
      · rename_i e; rw [if_pos e] at hy; exact hy
      · rename_i e; rw [if_neg e] at hy; have hy' : f (slot i (d + 1) * 32 ^ (d + 1) + j) = some y := hy; rw [h7 j hj] at hy'; cases hy'
    · obtain ⟨q, rfl⟩ := h7.ptr
      refine (branch_set_w S _ (loc i d) p arr i x (slot i (d + 1)) d w hd (slot_eq i (d + 1)) (slot_lt i (d + 1)) h2 h3 hone h4 q (ty d) (fn 93 103 d) hc (disp_ty disp_set0 disp_set1 d)
        (fun w' hb => set_any i x d _ w' q _ (by omega) (Node.stay (Stay.of_below hb) _ _ _ (h7.inS fun b h1 h2 => ⟨.inl h1, h2⟩)))).mono key

/-- a branch's children: none, or a node -/
def Kids (arr : Array Value) (t : Nat) : Prop := ∀ k, k < 32 → arr[1 + k]? = some .nilIface ∨ ∃ p, arr[1 + k]? = some (.iface t (.pointer (some ⟨p, 0, none⟩)))

set_option maxRecDepth 100000 in
set_option maxHeartbeats 800000 in
theorem branch_cb_w (b : Nat) (arr : Array Value) (i : Int) (j d t fid : Nat) (w : World) (hd : d < 12) (hb : bits BinOp.and IntKind.i64 (i / 2 ^ (d * 5)) 31 = j) (hj : j < 32)
    (hblk : w.heap[b]? = some (.cells arr 125 (0, 0))) (hc0 : arr[0]? = some (.int .u64 (d : Int))) (hk : Kids arr t) (h0 : Disp t fid "pub-frond/pub/immutable.containsBefore")
    (hcall : ∀ p, arr[1 + j]? = some (.iface t (.pointer (some ⟨p, 0, none⟩))) → Calls Try.prog fid #[.pointer (some ⟨p, 0, none⟩), .int .i64 i] w (SomeB w)) :
    Calls Try.prog 98 #[.pointer (some ⟨b, 0, none⟩), .int .i64 i] w (SomeB w) := by
  have hcell0 := cell_at hblk hc0
  obtain ⟨h1, h2, h3⟩ := h0
  have H4 := Lib.hid hcall; clear hcall
  have HK := Lib.hid hk; clear hk
  go_enter Try.func98, Try.ntmps98
  go_wp2_with fail
  go_loop [6] (fun v => ∃ k : Nat, k ≤ j ∧ v = .int .i64 k) (fun v => j - (intOf v).toNat)
  case atStart => exact ⟨0, Nat.zero_le _, rfl⟩
  case round =>
    obtain ⟨k, hkj, rfl⟩ := hrel
    by_cases hlt : k < j
    · rcases HK.out k (by omega) with hc | ⟨p, hc⟩
      · have hcc := cell_at hblk hc
        go_wp2
        go_round
        case rel => exact ⟨k + 1, by omega, by go_num⟩
        case measure => simp [intOf]; omega
      · have hcc := cell_at hblk hc
        go_wp2
        go_ret
        exact ⟨_, rfl, rfl⟩
    · rcases HK.out j hj with hc | ⟨p, hc⟩
      · have hcc := cell_at hblk hc
        go_wp2
        go_ret
        exact ⟨_, rfl, rfl⟩
      · have hcc := cell_at hblk hc
        go_wp2_with fail
        refine (H4.out p hc).mono ?_
        rintro e w' ⟨m, rfl, rfl⟩
        cases m
        · go_wp2
          go_ret
          exact ⟨_, rfl, rfl⟩
        · go_wp2
          go_ret
          exact ⟨_, rfl, rfl⟩

end Go.Proofs.Ytnahipfdnadccaa
