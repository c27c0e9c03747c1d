/- A branch: what it has behind a place; delete ahead of a place and behind it (as a copy). -/
import Derived.Test.YtnahipfdnadccaaBranchB
namespace Go.Proofs.Ytnahipfdnadccaa
open Go.RowKit

set_option maxRecDepth 100000 in
set_option maxHeartbeats 800000 in
theorem branch_ca_w (b : Nat) (arr : Array Value) (i : Int) (j d t fid : Nat) (w : World) (hd : d < 12) (hb : bits BinOp.and IntKind.i64 (i / 2 ^ (d * 5)) 31 = j) (hj : j < 32)
    (hblk : w.heap[b]? = some (.cells arr 125 (0, 0))) (hc0 : arr[0]? = some (.int .u64 (d : Int))) (hk : Kids arr t) (h0 : Disp t fid "pub-frond/pub/immutable.containsAfter")
    (hcall : ∀ p, arr[1 + j]? = some (.iface t (.pointer (some ⟨p, 0, none⟩))) → Calls Try.prog fid #[.pointer (some ⟨p, 0, none⟩), .int .i64 i] w (SomeB w)) :
    Calls Try.prog 97 #[.pointer (some ⟨b, 0, none⟩), .int .i64 i] w (SomeB w) := by
  have hcell0 := cell_at hblk hc0
  obtain ⟨h1, h2, h3⟩ := h0
  have H4 := Lib.hid hcall; clear hcall
  have HK := Lib.hid hk; clear hk
  go_enter Try.func97, Try.ntmps97
  go_wp2_with fail
  go_loop [6] (fun v => ∃ k : Nat, k ≤ 32 ∧ v = .int .i64 k) (fun v => 32 - (intOf v).toNat)
  case atStart => exact ⟨j + 1, by omega, by go_num⟩
  case round =>
    obtain ⟨k, hkj, rfl⟩ := hrel
    by_cases hlt : k < 32
    · rcases HK.out k (by omega) with hc | ⟨p, hc⟩
      · have hcc := cell_at hblk hc
        go_wp2
        go_round
        case rel => exact ⟨k + 1, by omega, by go_num⟩
        case measure => simp [intOf]; omega
      · have hcc := cell_at hblk hc
        go_wp2
        go_ret
        exact ⟨_, rfl, rfl⟩
    · rcases HK.out j hj with hc | ⟨p, hc⟩
      · have hcc := cell_at hblk hc
        go_wp2
        go_ret
        exact ⟨_, rfl, rfl⟩
      · have hcc := cell_at hblk hc
        go_wp2_with fail
        refine (H4.out p hc).mono ?_
        rintro e w' ⟨m, rfl, rfl⟩
        cases m
        · go_wp2
          go_ret
          exact ⟨_, rfl, rfl⟩
        · go_wp2
          go_ret
          exact ⟨_, rfl, rfl⟩

/-- what a delete in a branch leaves: a branch that has the children from lo on and ahead of hi, and others or none of them; the child at j is deleted in -/
def BranchDel (S : Nat → Prop) (w : World) (b : Nat) (arr : Array Value) (j d lo hi : Nat) (g : Nat → Option Int) (e : Ending) (w' : World) : Prop :=
  ∃ (n : Nat) (arr' : Array Value), e = .returned (.iface 122 (.pointer (some ⟨n, 0, none⟩))) ∧ w'.heap[n]? = some (.cells arr' 125 (0, 0)) ∧ (n = b ∨ w.heap.size ≤ n) ∧ Below w.heap.size w w' ∧
    arr'.size = 33 ∧ arr'[0]? = arr[0]? ∧ (∀ k, k < 32 → k ≠ j → arr'[1 + k]? = arr[1 + k]? ∨ (¬ (lo ≤ k ∧ k < hi) ∧ arr'[1 + k]? = some .nilIface)) ∧
    (arr'[1 + j]? = arr[1 + j]? ∨ ∃ v', arr'[1 + j]? = some v' ∧ Node (New S w) w' d v' g)

/-- the cells of the new branch behind the copy -/
def kept (arr : Array Value) (d lo hi : Nat) : List Value := splice (zbranch (d + 1)) (1 + lo) ((arr.toList.drop (1 + lo)).take (hi - lo))
theorem kept_get {arr : Array Value} (d : Nat) {lo hi : Nat} (hs : arr.size = 33) (h1 : lo ≤ hi) (h2 : hi ≤ 32) (k : Nat) :
    (kept arr d lo hi).toArray[k]? = if 1 + lo ≤ k ∧ k < 1 + hi then arr[k]? else (zbranch (d + 1))[k]? := by
  unfold kept
  rw [splice_get _ _ _ _ _ (by omega) (by rw [zbranch_len]; omega)]
  by_cases h : 1 + lo ≤ k ∧ k < 1 + hi
  · rw [if_pos h, if_pos (by omega)]; congr 1; omega
  · rw [if_neg h, if_neg (by omega)]
theorem kept_size {arr : Array Value} (d : Nat) {lo hi : Nat} (hs : arr.size = 33) (h1 : lo ≤ hi) (h2 : hi ≤ 32) : (kept arr d lo hi).toArray.size = 33 :=
  splice_size _ _ _ _ _ (by omega) (by rw [zbranch_len]; omega)

theorem branch_del_nil {S : Nat → Prop} {w W : World} {b : Nat} {arr : Array Value} {j d lo hi : Nat} {g : Nat → Option Int} (hs : arr.size = 33) (hc0 : arr[0]? = some (.int .u64 ((d + 1 : Nat) : Int)))
    (h1 : lo ≤ j) (h2 : j < hi) (h3 : hi ≤ 32) (hZ : W.heap[w.heap.size]? = some (.cells (kept arr d lo hi).toArray 125 (0, 0))) (hB : Below w.heap.size w W) :
    BranchDel S w b arr j d lo hi g (.returned (.iface 122 (.pointer (some ⟨w.heap.size, 0, none⟩)))) W := by
  refine ⟨_, _, rfl, hZ, .inr (Nat.le_refl _), hB, kept_size d hs (by omega) h3, ?_, fun k hk hkj => ?_, .inl ?_⟩
  · rw [kept_get d hs (by omega) h3, if_neg (by omega), hc0]; rfl
  · rw [kept_get d hs (by omega) h3]
    by_cases h : 1 + lo ≤ 1 + k ∧ 1 + k < 1 + hi
    · rw [if_pos h]; exact .inl rfl
    · rw [if_neg h]; exact .inr ⟨by omega, zbranch_get (d + 1) k hk⟩
  · rw [kept_get d hs (by omega) h3, if_pos (by omega)]

theorem branch_del_set {S : Nat → Prop} {w W w' : World} {b : Nat} {arr : Array Value} {j d lo hi q : Nat} {g : Nat → Option Int} (hs : arr.size = 33) (hc0 : arr[0]? = some (.int .u64 ((d + 1 : Nat) : Int)))
    (h1 : lo ≤ j) (h2 : j < hi) (h3 : hi ≤ 32) (hZ : w'.heap[w.heap.size]? = some (.cells (kept arr d lo hi).toArray 125 (0, 0))) (hB : Below w.heap.size w W) (hsz : w.heap.size < W.heap.size)
    (hn : Node (New (fun b => New S w b ∧ b < w.heap.size) W.drew) w' d (.iface (ty d) (.pointer (some ⟨q, 0, none⟩))) g) (hb : Below W.drew.heap.size W.drew w') :
    BranchDel S w b arr j d lo hi g (.returned (.iface 122 (.pointer (some ⟨w.heap.size, 0, none⟩)))) (w'.setCell ⟨w.heap.size, 1 + j, none⟩ (.iface (ty d) (.pointer (some ⟨q, 0, none⟩)))) := by
  refine ⟨_, _, rfl, heap_setCell_same _ _ _ _ _ _ hZ, .inr (Nat.le_refl _), ?_, ?_, ?_, fun k hk hkj => ?_, .inr ⟨.iface (ty d) (.pointer (some ⟨q, 0, none⟩)), ?_, ?_⟩⟩
  · exact (hB.drew.trans (hb.mono (by show w.heap.size ≤ W.heap.size; omega))).setCell (Nat.le_refl _) _
  · rw [Array.size_setIfInBounds]; exact kept_size d hs (by omega) h3
  · rw [Array.getElem?_setIfInBounds_ne (by omega), kept_get d hs (by omega) h3, if_neg (by omega), hc0]; rfl
  · rw [Array.getElem?_setIfInBounds_ne (by omega), kept_get d hs (by omega) h3]
    by_cases h : 1 + lo ≤ 1 + k ∧ 1 + k < 1 + hi
    · rw [if_pos h]; exact .inl rfl
    · rw [if_neg h]; exact .inr ⟨by omega, zbranch_get (d + 1) k hk⟩
  · rw [Array.getElem?_setIfInBounds_self_of_lt (by rw [kept_size d hs (by omega) h3]; omega)]
  · refine Node.stayS (fun b c t hS hc _ => ?_) (fun b hS _ => ?_) _ _ _ hn
    · rw [heap_setCell_other]
      · exact hc
      · show b ≠ w.heap.size
        rcases hS with hS | hS
        · omega
        · have : W.heap.size ≤ b := hS
          omega
    · rcases hS with hS | hS
      · exact hS.1
      · have : W.heap.size ≤ b := hS
        exact .inr (by omega)

theorem size100 : (Try.prog.info? 100).map (·.size) = some 1 := by kernel_rfl

set_option maxRecDepth 100000 in
set_option maxHeartbeats 1600000 in
theorem branch_db_w (S : Nat → Prop) (g : Nat → Option Int) (b : Nat) (arr : Array Value) (i : Int) (j d : Nat) (w : World) (hd : d + 1 < 12) (hb : bits BinOp.and IntKind.i64 (i / 2 ^ ((d + 1) * 5)) 31 = j) (hj : j < 32)
    (hblk : w.heap[b]? = some (.cells arr 125 (0, 0))) (hs : arr.size = 33) (hone : arr.all (·.oneCell') = true) (hc0 : arr[0]? = some (.int .u64 ((d + 1 : Nat) : Int))) (hk : Kids arr (ty d)) (t fid : Nat) (ht : t = ty d)
    (h0 : Disp t fid "pub-frond/pub/immutable.deleteBefore")
    (hcb : Calls Try.prog 98 #[.pointer (some ⟨b, 0, none⟩), .int .i64 i] w (SomeB w))
    (hcall : ∀ p w', arr[1 + j]? = some (.iface t (.pointer (some ⟨p, 0, none⟩))) → Below w.heap.size w w' → Calls Try.prog fid #[.pointer (some ⟨p, 0, none⟩), .int .i64 i, .bool false] w' (DelPost (fun b => New S w b ∧ b < w.heap.size) w' d g)) :
    Calls Try.prog 100 #[.pointer (some ⟨b, 0, none⟩), .int .i64 i, .bool false] w (BranchDel S w b arr j d j 32 g) := by
  have hcell0 := cell_at hblk hc0
  obtain ⟨h1, h2, h3⟩ := h0
  have H4 := Lib.hid hcall; clear hcall
  have H5 := Lib.hid hcb; clear hcb
  have HT := Lib.hid ht; clear ht
  have HK := Lib.hid hk; clear hk
  go_enter Try.func100, Try.ntmps100
  go_wp2_with fail
  refine H5.out.mono ?_
  rintro e w' ⟨m, rfl, rfl⟩
  cases m
  · go_wp2
    go_ret
    exact ⟨b, arr, rfl, hblk, .inl rfl, Below.refl _ _, hs, rfl, fun k _ _ => .inl rfl, .inl rfl⟩
  · go_wp2
    change Code.wp _ _ _ _ (w.alloc (Obj.cells (zbranch (d + 1)).toArray 125))
    have hZ : Hid ((w.alloc (Obj.cells (zbranch (d + 1)).toArray 125)).heap[w.heap.size]? = some (.cells (zbranch (d + 1)).toArray 125 (0, 0))) := heap_alloc_last w _
    have hB : Below w.heap.size w (w.alloc (Obj.cells (zbranch (d + 1)).toArray 125)) := (Below.refl _ _).alloc (Nat.le_refl _) _
    generalize hW : w.alloc (Obj.cells (zbranch (d + 1)).toArray 125) = W at hZ hB ⊢
    clear hW
    have hsl1 := slice123_l w.heap.size 1 j hj
    have hsl2 := slice123_l b 1 j hj
    refine region_tail 12 (by kernel_rfl) (by kernel_rfl) ?_
    simp only [List.take_succ_cons, List.take_zero, List.drop_succ_cons, List.drop_zero]
    repeat still_step
    refine wpStill_nil ?_
    clear hsl1 hsl2
    have hcs := fun (k : Nat) (v : Value) (h : ((arr.toList.drop (1 + j)).take (32 - j))[k]? = some v) => (seg_get h).2
    refine wpList_copy_splice rfl (.tmp 47) (.tmp 53) 145 145 rfl 100 Try.underlying145 size100 _ _ _ _ _ _ rfl rfl w.heap.size (1 + j) (zbranch (d + 1)) 125 hZ ((arr.toList.drop (1 + j)).take (32 - j)) ?c1 ?c2 ?c3 ?c4 w.heap.size w hB.drew (Nat.le_refl _) ?_
    case c1 => rw [seg_len (by omega)]; exact (Nat.min_self _).symm
    case c2 =>
      intro _
      refine ⟨rfl, _, rfl, fun k v hv => ?_⟩
      rw [addr_add]
      exact (hB.drew.cell (p := ⟨b, 1 + j + k, none⟩) (lt_of_block hblk)).trans (cell_at hblk (hcs k v hv))
    case c3 => rw [seg_len (by omega), zbranch_len]; omega
    case c4 => exact seg_one hone
    clear hcs hZ hB W
    intro W hZ0 hB0
    have hZ : Hid (W.heap[w.heap.size]? = some (.cells (kept arr d j 32).toArray 125 (0, 0))) := hZ0
    have hB := Lib.hid hB0
    clear hZ0 hB0
    have hsz : Hid (w.heap.size < W.heap.size) := lt_of_block hZ.out
    have hget := kept_get (arr := arr) d (lo := j) (hi := 32) hs (by omega) (by omega) (1 + j)
    rw [if_pos (by omega)] at hget
    rcases HK.out j hj with hc | ⟨p, hc⟩
    · have hcj := cell_at hZ.out (hget.trans hc)
      clear hget
      go_wp2
      go_ret
      exact branch_del_nil hs hc0 (by omega) (by omega) (by omega) hZ.out hB.out
    · have hcj := cell_at hZ.out (hget.trans hc)
      rw [← HT.out] at hcj hc
      have hget2 := Lib.hid (hget.trans hc)
      have H6 : Hid (Calls Try.prog fid #[.pointer (some ⟨p, 0, none⟩), .int .i64 i, .bool false] W.drew (DelPost (fun b => New S w b ∧ b < w.heap.size) W.drew d g)) := H4.out p _ hc hB.out.drew
      clear hget
      go_wp2
      go_region_with (first | ((with_reducible refine H6.out.mono ?_); rintro e w' ⟨v', rfl, hn, hb⟩; obtain ⟨q, rfl⟩ := hn.ptr; have hz' := after_cell hZ hb; have hc' := cell_at hz' hget2.out; have hf' : w'.frozen? ⟨w.heap.size, 1 + j, none⟩ = false := frozen_of_row _ _ _ _ _ hz'; have HN := Lib.hid (And.intro hn hb); have HZ' := Lib.hid hz'; clear hn hb hz'))
      go_wp2
      go_ret
      exact branch_del_set hs hc0 (by omega) (by omega) (by omega) HZ'.out hB.out hsz.out HN.out.1 HN.out.2

end Go.Proofs.Ytnahipfdnadccaa
