/- The walks over a leaf: what it has ahead of a place or behind it; delete (as a copy). -/
import Derived.Test.YtnahipfdnadccaaLeaf
import Derived.Laws.CopyOwn
namespace Go.Proofs.Ytnahipfdnadccaa
open Go.RowKit

def SomeI (w : World) (e : Ending) (w' : World) : Prop := ∃ m : Int, e = .returned (.int .i64 m) ∧ w = w'

set_option maxRecDepth 100000 in
set_option maxHeartbeats 400000 in
theorem tz_w (n : Int) (w : World) (hn : (n == 0) = false) (m : Int) (h0 : 0 ≤ m) (h1 : m ≤ 255) (hc : w.cell? ⟨0, (bits BinOp.and IntKind.u32 n (-n % 4294967296) * 125613361 % 4294967296 / 134217728).toNat, none⟩ = some (.int .u8 m)) :
    Calls Try.prog 95 #[.int .u32 n] w (SomeI w) := by
  go_enter Try.func95, Try.ntmps95
  go_wp2
  go_ret
  exact ⟨m, rfl, rfl⟩

set_option maxRecDepth 100000 in
set_option maxHeartbeats 400000 in
theorem tz_0 (w : World) :
    Calls Try.prog 95 #[.int .u32 0] w (SomeI w) := by
  go_enter Try.func95, Try.ntmps95
  go_wp2
  go_ret
  exact ⟨32, rfl, rfl⟩

set_option maxRecDepth 100000 in
set_option maxHeartbeats 400000 in
theorem len_w (n : Int) (w : World) (h0 : 0 ≤ n) (h1 : n < 4294967296) :
    Calls Try.prog 96 #[.int .u32 n] w (SomeI w) := by
  go_enter Try.func96, Try.ntmps96
  go_wp2
  all_goals go_ret
  all_goals exact ⟨_, rfl, rfl⟩

set_option maxRecDepth 100000 in
set_option maxHeartbeats 400000 in
theorem lz_w (n : Int) (w : World) (h0 : 0 ≤ n) (h1 : n < 4294967296) :
    Calls Try.prog 94 #[.int .u32 n] w (SomeI w) := by
  go_enter Try.func94, Try.ntmps94
  go_wp2_with fail
  refine (len_w n _ h0 h1).mono ?_
  rintro e w' ⟨m, rfl, rfl⟩
  go_wp2
  go_ret
  exact ⟨_, rfl, rfl⟩

/-- the table of package bits, whatever it holds -/
def Glob (w : World) : Prop := ∃ cs : Array Value, w.heap[0]? = some (Obj.cells cs 144 (0, 0)) ∧ ∀ k, k < 32 → ∃ m : Int, cs[k]? = some (.int .u8 m) ∧ 0 ≤ m ∧ m ≤ 255
theorem Glob.stay {w w' : World} (h : Glob w) (s : Stay w w') : Glob w' := by
  obtain ⟨cs, h1, h2⟩ := h
  exact ⟨cs, s 0 cs 144 h1 (.inr (.inr (.inr rfl))), h2⟩

theorem tz_any (n : Int) (w : World) (hg : Glob w) : Calls Try.prog 95 #[.int .u32 n] w (SomeI w) := by
  by_cases h : n = 0
  · subst h; exact tz_0 w
  · obtain ⟨cs, h1, h2⟩ := hg
    have hk : (bits BinOp.and IntKind.u32 n (-n % 4294967296) * 125613361 % 4294967296 / 134217728).toNat < 32 := by omega
    obtain ⟨m, h3, h4, h5⟩ := h2 _ hk
    exact tz_w n w (by simpa using h) m h4 h5 (cell_at h1 h3)

def SomeB (w : World) (e : Ending) (w' : World) : Prop := ∃ b : Bool, e = .returned (.bool b) ∧ w = w'

set_option maxRecDepth 100000 in
set_option maxHeartbeats 400000 in
theorem leaf_cb_w (b : Nat) (i occ : Int) (w : World) (hg : Glob w) (hc : w.cell? ⟨b, 32, none⟩ = some (.int .u32 occ)) :
    Calls Try.prog 88 #[.pointer (some ⟨b, 0, none⟩), .int .i64 i] w (SomeB w) := by
  go_enter Try.func88, Try.ntmps88
  go_wp2_with fail
  refine (tz_any _ _ hg).mono ?_
  rintro e w' ⟨m, rfl, rfl⟩
  go_wp2
  go_ret
  exact ⟨_, rfl, rfl⟩

set_option maxRecDepth 100000 in
set_option maxHeartbeats 400000 in
theorem leaf_ca_w (b : Nat) (i occ : Int) (w : World) (h0 : 0 ≤ occ) (h1 : occ < 4294967296) (hc : w.cell? ⟨b, 32, none⟩ = some (.int .u32 occ)) :
    Calls Try.prog 87 #[.pointer (some ⟨b, 0, none⟩), .int .i64 i] w (SomeB w) := by
  go_enter Try.func87, Try.ntmps87
  go_wp2_with fail
  refine (lz_w _ _ h0 h1).mono ?_
  rintro e w' ⟨m, rfl, rfl⟩
  go_wp2
  go_ret
  exact ⟨_, rfl, rfl⟩

/-- the zeros of a new leaf, and a number in its last cell -/
def zleaf (occ : Int) : List Value := [.int .i64 0, .int .i64 0, .int .i64 0, .int .i64 0, .int .i64 0, .int .i64 0, .int .i64 0, .int .i64 0, .int .i64 0, .int .i64 0, .int .i64 0, .int .i64 0, .int .i64 0, .int .i64 0, .int .i64 0, .int .i64 0, .int .i64 0, .int .i64 0, .int .i64 0, .int .i64 0, .int .i64 0, .int .i64 0, .int .i64 0, .int .i64 0, .int .i64 0, .int .i64 0, .int .i64 0, .int .i64 0, .int .i64 0, .int .i64 0, .int .i64 0, .int .i64 0, .int .u32 occ]
theorem size2 : (Try.prog.info? 2).map (·.size) = some 1 := by kernel_rfl

/-- a part of a row that is copied into a row -/
theorem seg_len {arr : Array Value} {o n : Nat} (h : o + n ≤ arr.size) : ((arr.toList.drop o).take n).length = n := by simp; omega
theorem seg_get {arr : Array Value} {o n k : Nat} {v : Value} (h : ((arr.toList.drop o).take n)[k]? = some v) : k < n ∧ arr[o + k]? = some v := by
  rw [List.getElem?_take] at h
  split at h
  · rename_i hk
    rw [List.getElem?_drop] at h
    exact ⟨hk, by simpa using h⟩
  · cases h
theorem seg_one {arr : Array Value} {o n : Nat} (h : arr.all (·.oneCell') = true) : ∀ v ∈ (arr.toList.drop o).take n, v.oneCell' = true := by
  intro v hv
  have h1 := List.mem_of_mem_drop (List.mem_of_mem_take hv)
  exact (Array.all_eq_true_iff_forall_mem.1 h) v (by simpa using h1)
theorem splice_get (L : List Value) (arr : Array Value) (o n s : Nat) (hn : s + n ≤ arr.size) (hL : o + n ≤ L.length) (k : Nat) :
    (splice L o ((arr.toList.drop s).take n)).toArray[k]? = if o ≤ k ∧ k < o + n then arr[s + (k - o)]? else L[k]? := by
  unfold splice
  have hl := seg_len hn
  rw [List.getElem?_toArray]
  rw [List.getElem?_append]
  have ht : (L.take o).length = o := by simp; omega
  rw [ht]
  by_cases h1 : k < o
  · rw [if_pos h1, if_neg (by omega), List.getElem?_take, if_pos h1]
  · rw [if_neg h1, List.getElem?_append, hl]
    by_cases h2 : k - o < n
    · rw [if_pos h2, if_pos (by omega), List.getElem?_take, if_pos h2, List.getElem?_drop]
      simp
    · rw [if_neg h2, if_neg (by omega), List.getElem?_drop]
      congr 1
      omega
theorem splice_size (L : List Value) (arr : Array Value) (o n s : Nat) (hn : s + n ≤ arr.size) (hL : o + n ≤ L.length) :
    (splice L o ((arr.toList.drop s).take n)).toArray.size = L.length := by
  have := length_splice L o ((arr.toList.drop s).take n) (by rw [seg_len hn]; exact hL)
  simpa using this

/-- the post of a delete: another leaf that has what lay from lo on and ahead of hi, or the same -/
def DelLeaf (w : World) (b : Nat) (arr : Array Value) (lo hi : Nat) (e : Ending) (w' : World) : Prop :=
  ∃ (n : Nat) (arr' : Array Value) (occ' : Int), e = .returned (.iface 111 (.pointer (some ⟨n, 0, none⟩))) ∧ w'.heap[n]? = some (.cells arr' 110 (0, 0)) ∧ arr'.size = 33 ∧
    arr'[32]? = some (.int .u32 occ') ∧ 0 ≤ occ' ∧ occ' < 4294967296 ∧ (∀ k, k < 32 → (lo ≤ k ∧ k < hi → arr'[k]? = arr[k]?) ∧ (¬ (lo ≤ k ∧ k < hi) → arr'[k]? = some (.int .i64 0) ∨ arr'[k]? = arr[k]?)) ∧ Below w.heap.size w w' ∧ (n = b ∨ w.heap.size ≤ n)

theorem zleaf_len (occ : Int) : (zleaf occ).length = 33 := rfl
theorem zleaf_get (occ : Int) : ∀ k, k < 32 → (zleaf occ)[k]? = some (.int .i64 0) := by
  intro k hk
  have : ∀ k : Fin 32, (zleaf occ)[k.val]? = some (.int .i64 0) := by
    intro k
    rcases k with ⟨k, hk⟩
    iterate 32 (rcases k with _ | k; · rfl)
    omega
  exact this ⟨k, hk⟩
theorem zleaf_last (occ : Int) : (zleaf occ)[32]? = some (.int .u32 occ) := rfl

/-- what stands at the end of a delete: the last cell of the new leaf is written once more -/
theorem del_leaf_end {w W' : World} {b : Nat} {arr : Array Value} {occ X : Int} {o n hi : Nat} (hs : arr.size = 33) (ho : o + n ≤ 32) (hhi : o + n = hi)
    (hZ : W'.heap[w.heap.size]? = some (.cells (splice (zleaf occ) o ((arr.toList.drop o).take n)).toArray 110 (0, 0))) (hB : Below w.heap.size w W') (hX : 0 ≤ X ∧ X < 4294967296) :
    DelLeaf w b arr o hi (.returned (.iface 111 (.pointer (some ⟨w.heap.size, 0, none⟩)))) (W'.setCell ⟨w.heap.size, 32, none⟩ (.int .u32 X)).drew := by
  subst hhi
  have hsz := splice_size (zleaf occ) arr o n o (by omega) (by rw [zleaf_len]; omega)
  rw [zleaf_len] at hsz
  refine ⟨w.heap.size, (splice (zleaf occ) o ((arr.toList.drop o).take n)).toArray.setIfInBounds 32 (.int .u32 X), X, rfl, ?_, ?_, ?_, hX.1, hX.2, ?_, (hB.setCell (Nat.le_refl _) _).drew, .inr (Nat.le_refl _)⟩
  · rw [heap_drew]
    exact heap_setCell_same _ _ _ _ _ _ hZ
  · rw [Array.size_setIfInBounds]; exact hsz
  · rw [Array.getElem?_setIfInBounds_self_of_lt (by omega)]
  · intro k hk
    rw [Array.getElem?_setIfInBounds_ne (by omega), splice_get _ _ _ _ _ (by omega) (by rw [zleaf_len]; omega)]
    constructor
    · rintro ⟨h1, h2⟩
      rw [if_pos ⟨h1, h2⟩]
      congr 1
      omega
    · intro h1
      rw [if_neg h1]
      exact .inl (zleaf_get occ k hk)

set_option maxRecDepth 100000 in
set_option maxHeartbeats 800000 in
theorem leaf_db_w (b : Nat) (arr : Array Value) (occ i : Int) (j : Nat) (w : World) (hg : Glob w) (hb : bits BinOp.and IntKind.i64 i 31 = j) (hj : j < 32)
    (hblk : w.heap[b]? = some (.cells arr 110 (0, 0))) (hs : arr.size = 33) (hone : arr.all (·.oneCell') = true) (ho : arr[32]? = some (.int .u32 occ)) (h0 : 0 ≤ occ ∧ occ < 4294967296) :
    Calls Try.prog 90 #[.pointer (some ⟨b, 0, none⟩), .int .i64 i, .bool false] w (DelLeaf w b arr j 32) := by
  have hc := cell_at hblk ho
  have H0 := Lib.hid h0
  clear h0
  go_enter Try.func90, Try.ntmps90
  go_wp2_with fail
  refine (leaf_cb_w b i occ _ hg hc).mono ?_
  rintro e w' ⟨m, rfl, rfl⟩
  cases m
  · go_wp2
    go_ret
    exact ⟨b, arr, occ, rfl, hblk, hs, ho, H0.out.1, H0.out.2, fun k hk => ⟨fun _ => rfl, fun _ => .inr rfl⟩, Below.refl _ _, .inl rfl⟩
  · go_wp2
    change Code.wp _ _ _ _ (w.alloc (Obj.cells (zleaf occ).toArray 110))
    have hZ : Hid ((w.alloc (Obj.cells (zleaf occ).toArray 110)).heap[w.heap.size]? = some (.cells (zleaf occ).toArray 110 (0, 0))) := heap_alloc_last w _
    have hB : Below w.heap.size w (w.alloc (Obj.cells (zleaf occ).toArray 110)) := (Below.refl _ _).alloc (Nat.le_refl _) _
    generalize hW : w.alloc (Obj.cells (zleaf occ).toArray 110) = W at hZ hB ⊢
    clear hW
    have hsl1 := slice107_l w.heap.size 0 j hj
    have hsl2 := slice107_l b 0 j hj
    refine region_tail 12 (by kernel_rfl) (by kernel_rfl) ?_
    simp only [List.take_succ_cons, List.take_zero, List.drop_succ_cons, List.drop_zero]
    repeat still_step
    refine wpStill_nil ?_
    clear hsl1 hsl2
    have hcs := fun (k : Nat) (v : Value) (h : ((arr.toList.drop j).take (32 - j))[k]? = some v) => (seg_get h).2
    refine wpList_copy_splice rfl (.tmp 43) (.tmp 49) 32 32 rfl 2 Try.underlying32 size2 _ _ _ _ _ _ rfl rfl w.heap.size j (zleaf occ) 110 hZ ((arr.toList.drop j).take (32 - j)) ?c1 ?c2 ?c3 ?c4 w.heap.size w hB.drew (Nat.le_refl _) ?_
    case c1 => rw [seg_len (by omega)]; exact (Nat.min_self _).symm
    case c2 =>
      intro _
      refine ⟨rfl, _, rfl, fun k v hv => ?_⟩
      rw [addr_add]
      exact (hB.drew.cell (p := ⟨b, j + k, none⟩) (lt_of_block hblk)).trans (cell_at hblk (hcs k v hv))
    case c3 => rw [seg_len (by omega), zleaf_len]; omega
    case c4 => exact seg_one hone
    clear hcs hZ hB W
    intro W hZ hB
    have hc32 : W.cell? ⟨w.heap.size, 32, none⟩ = some (.int .u32 occ) := by
      refine cell_at hZ.out ?_
      rw [splice_get _ _ _ _ _ (by omega) (by rw [zleaf_len]; omega), if_neg (by omega)]
      exact zleaf_last occ
    have hf32 : W.frozen? ⟨w.heap.size, 32, none⟩ = false := frozen_of_row _ _ _ _ _ hZ.out
    have HB := Lib.hid hB
    clear hB
    have hsg : IntKind.u32.signed = false := rfl
    go_wp2
    refine region_tail 11 (by kernel_rfl) (by kernel_rfl) ?_
    simp only [List.take_succ_cons, List.take_zero, List.drop_succ_cons, List.drop_zero]
    repeat still_step
    refine wpStill_nil ?_
    go_wp2
    go_ret
    exact del_leaf_end hs (by omega) (by omega) hZ.out HB.out (u32_and occ _)

end Go.Proofs.Ytnahipfdnadccaa
