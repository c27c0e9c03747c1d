/- The walks over a leaf of a list's tree: get, set (as a copy), contains, delete (as a copy).

The walks over a leaf: what it has ahead of a place or behind it; delete (as a copy).

The walks over a leaf: delete behind a place (as a copy); a new node; a node's depth. -/
import Derived.Test.YtnahipfdnadccaaBase
import Derived.Laws.CopyOwn
namespace Go.Proofs.Ytnahipfdnadccaa
open Go.RowKit

theorem arr_one {arr : Array Value} {n : Nat} (hs : arr.size = n) (h : ∀ k, k < n → ∃ v, arr[k]? = some v ∧ v.oneCell' = true) : arr.all (·.oneCell') = true := by
  rw [Array.all_eq_true]
  intro i hi
  obtain ⟨v, hv, h1⟩ := h i (by omega)
  rw [Array.getElem?_eq_getElem hi] at hv
  cases hv
  exact h1

theorem leaf_one {arr : Array Value} {occ : Int} {f : Nat → Option Int} (hs : arr.size = 33) (ho : arr[32]? = some (.int .u32 occ)) (h : ∀ k, k < 32 → ∃ x, arr[k]? = some (.int .i64 x) ∧ ∀ y, f k = some y → y = x) : arr.all (·.oneCell') = true :=
  arr_one hs fun k hk => by
    by_cases e : k = 32
    · subst e; exact ⟨_, ho, rfl⟩
    · obtain ⟨x, hx, _⟩ := h k (by omega); exact ⟨_, hx, rfl⟩

/-- a cell of a row -/
theorem cell_at {w : World} {b j : Nat} {arr : Array Value} {t : TypeId} {fz : Nat × Nat} {v : Value} (hg : w.heap[b]? = some (.cells arr t fz)) (hv : arr[j]? = some v) : w.cell? ⟨b, j, none⟩ = some v := by
  rw [cell_of_row _ _ _ _ _ _ hg]; exact hv

set_option maxRecDepth 100000 in
set_option maxHeartbeats 400000 in
theorem leaf_get_w (b : Nat) (i : Int) (j : Nat) (x : Int) (w : World) (hb : bits BinOp.and IntKind.i64 i 31 = j) (hj : j < 32) (hc : w.cell? ⟨b, j, none⟩ = some (.int .i64 x)) :
    Calls Try.prog 92 #[.pointer (some ⟨b, 0, none⟩), .int .i64 i] w fun e w' => e = .returned (.int .i64 x) ∧ w = w' := by
  go_enter Try.func92, Try.ntmps92
  go_wp2
  go_ret
  exact ⟨rfl, rfl⟩

theorem leaf_get {S : Nat → Prop} {w : World} {p : Nat} {f : Nat → Option Int} (i x : Int) (h : Node S w 0 (.iface 111 (.pointer (some ⟨p, 0, none⟩))) f) (hx : f (loc i 0) = some x) :
    Calls Try.prog 92 #[.pointer (some ⟨p, 0, none⟩), .int .i64 i] w fun e w' => e = .returned (.int .i64 x) ∧ w = w' := by
  obtain ⟨b, arr, occ, h1, h2, h3, h4, h5, h6, h7, h8⟩ := h
  simp only [Value.iface.injEq, Value.pointer.injEq, Option.some.injEq, Addr.mk.injEq, true_and, and_true] at h1
  subst h1
  obtain ⟨y, hy, hz⟩ := h7 (slot i 0) (slot_lt i 0)
  rw [loc0] at hx
  have := hz x hx
  subst this
  exact leaf_get_w p i (slot i 0) x w (slot0 i) (slot_lt i 0) (cell_at h2 hy)

set_option maxRecDepth 100000 in
set_option maxHeartbeats 400000 in
theorem leaf_set_w (b : Nat) (arr : Array Value) (occ i x y : Int) (j : Nat) (w : World) (hb : bits BinOp.and IntKind.i64 i 31 = j) (hj : j < 32)
    (hblk : w.heap[b]? = some (.cells arr 110 (0, 0))) (hs : arr.size = 33) (hone : arr.all (·.oneCell') = true) (ho : arr[32]? = some (.int .u32 occ)) (_hy : arr[j]? = some (.int .i64 y)) :
    Calls Try.prog 93 #[.pointer (some ⟨b, 0, none⟩), .int .i64 i, .int .i64 x, .bool false] w fun e w' => e = .returned (.iface 111 (.pointer (some ⟨w.heap.size, 0, none⟩))) ∧
      ((w.alloc (.cells (arr.setIfInBounds j (.int .i64 x)) 110)).setCell ⟨w.heap.size, 32, none⟩ (.int .u32 (bits BinOp.or IntKind.u32 occ (2 ^ j % 4294967296)))).drew = w' := by
  have hst := fun (c : Array Value) (hc : c.size = 33) => run_storeCells_new (P := Try.prog) w 110 c arr (size110.trans (by rw [hs])) (by rw [hc, hs]) hone
  go_enter Try.func93, Try.ntmps93
  go_wp2_with (first | (with_reducible refine wpList_load_row rfl 110 _ rfl b rfl 110 arr (0, 0) _ hblk Try.underlying110 rfl (size110.trans (by rw [hs])) ?_))
  have hc32 : (w.alloc (.cells (arr.setIfInBounds j (.int .i64 x)) 110)).cell? ⟨w.heap.size, 32, none⟩ = some (.int .u32 occ) := by
    rw [cell_of_row _ _ _ _ _ _ (heap_alloc_last w _), Array.getElem?_setIfInBounds_ne (by omega)]; exact ho
  have hf32 : (w.alloc (.cells (arr.setIfInBounds j (.int .i64 x)) 110)).frozen? ⟨w.heap.size, 32, none⟩ = false := frozen_of_row _ _ _ _ _ (heap_alloc_last w _)
  generalize hW : w.alloc (.cells (arr.setIfInBounds j (.int .i64 x)) 110) = W at hc32 hf32 ⊢
  have HW := Lib.hid hW
  clear hW hst
  refine region_tail 9 (by kernel_rfl) (by kernel_rfl) ?_
  simp only [List.take_succ_cons, List.take_zero, List.drop_succ_cons, List.drop_zero]
  repeat still_step
  refine wpStill_nil ?_
  go_wp2
  go_ret
  exact ⟨rfl, by rw [HW.out]⟩

/-- the post of a set that copies -/
def SetPost (S : Nat → Prop) (w : World) (d : Nat) (f : Nat → Option Int) (k : Nat) (x : Int) (e : Ending) (w' : World) : Prop :=
  ∃ v', e = .returned v' ∧ Node (New S w) w' d v' (upd f k x) ∧ Below w.heap.size w w'

theorem u32_or (x y : Int) : 0 ≤ bits BinOp.or IntKind.u32 x y ∧ bits BinOp.or IntKind.u32 x y < 4294967296 := by
  unfold bits
  simp only
  rw [IntKind.wrap_u32]
  omega
theorem u32_and (x y : Int) : 0 ≤ bits BinOp.and IntKind.u32 x y ∧ bits BinOp.and IntKind.u32 x y < 4294967296 := by
  unfold bits
  simp only
  rw [IntKind.wrap_u32]
  omega

theorem leaf_set {S : Nat → Prop} {w : World} {p : Nat} {f : Nat → Option Int} (i x : Int) (h : Node S w 0 (.iface 111 (.pointer (some ⟨p, 0, none⟩))) f) :
    Calls Try.prog 93 #[.pointer (some ⟨p, 0, none⟩), .int .i64 i, .int .i64 x, .bool false] w (SetPost S w 0 f (loc i 0) x) := by
  obtain ⟨b, arr, occ, h1, h2, h3, h4, h5, h6, h7, h8⟩ := h
  simp only [Value.iface.injEq, Value.pointer.injEq, Option.some.injEq, Addr.mk.injEq, true_and, and_true] at h1
  subst h1
  obtain ⟨y, hy, hz⟩ := h7 (slot i 0) (slot_lt i 0)
  refine (leaf_set_w p arr occ i x y (slot i 0) w (slot0 i) (slot_lt i 0) h2 h3 (leaf_one h3 h4 h7) h4 hy).mono ?_
  rintro e w' ⟨rfl, rfl⟩
  have hr := u32_or occ (2 ^ (slot i 0) % 4294967296)
  have hl := slot_lt i 0
  refine ⟨_, rfl, ?_, ((((Below.refl _ _).alloc (Nat.le_refl _) _).setCell (Nat.le_refl _) _).drew)⟩
  refine ⟨w.heap.size, (arr.setIfInBounds (slot i 0) (.int .i64 x)).setIfInBounds 32 (.int .u32 (bits BinOp.or IntKind.u32 occ (2 ^ (slot i 0) % 4294967296))), _, rfl, ?_, ?_, ?_, hr.1, hr.2, ?_, .inr (Nat.le_refl _)⟩
  · rw [heap_drew]
    exact heap_setCell_same _ _ _ _ _ _ (heap_alloc_last w _)
  · simp [h3]
  · rw [Array.getElem?_setIfInBounds_self_of_lt (by simp [h3])]
  · intro k hk
    rw [Array.getElem?_setIfInBounds_ne (by omega), loc0]
    by_cases e : k = slot i 0
    · subst e
      rw [Array.getElem?_setIfInBounds_self_of_lt (by omega)]
      exact ⟨x, rfl, fun y hy => by unfold upd at hy; rw [if_pos rfl] at hy; cases hy; rfl⟩
    · rw [Array.getElem?_setIfInBounds_ne (fun h => e h.symm)]
      obtain ⟨y', hy', hz'⟩ := h7 k hk
      exact ⟨y', hy', fun y hy => by unfold upd at hy; rw [if_neg e] at hy; exact hz' y hy⟩

end Go.Proofs.Ytnahipfdnadccaa

namespace Go.Proofs.Ytnahipfdnadccaa
open Go.RowKit

def SomeI (w : World) (e : Ending) (w' : World) : Prop := ∃ m : Int, e = .returned (.int .i64 m) ∧ w = w'

set_option maxRecDepth 100000 in
set_option maxHeartbeats 400000 in
theorem tz_w (n : Int) (w : World) (hn : (n == 0) = false) (m : Int) (h0 : 0 ≤ m) (h1 : m ≤ 255) (hc : w.cell? ⟨0, (bits BinOp.and IntKind.u32 n (-n % 4294967296) * 125613361 % 4294967296 / 134217728).toNat, none⟩ = some (.int .u8 m)) :
    Calls Try.prog 95 #[.int .u32 n] w (SomeI w) := by
  go_enter Try.func95, Try.ntmps95
  go_wp2
  go_ret
  exact ⟨m, rfl, rfl⟩

set_option maxRecDepth 100000 in
set_option maxHeartbeats 400000 in
theorem tz_0 (w : World) :
    Calls Try.prog 95 #[.int .u32 0] w (SomeI w) := by
  go_enter Try.func95, Try.ntmps95
  go_wp2
  go_ret
  exact ⟨32, rfl, rfl⟩

set_option maxRecDepth 100000 in
set_option maxHeartbeats 400000 in
theorem len_w (n : Int) (w : World) (h0 : 0 ≤ n) (h1 : n < 4294967296) :
    Calls Try.prog 96 #[.int .u32 n] w (SomeI w) := by
  go_enter Try.func96, Try.ntmps96
  go_wp2
  all_goals go_ret
  all_goals exact ⟨_, rfl, rfl⟩

set_option maxRecDepth 100000 in
set_option maxHeartbeats 400000 in
theorem lz_w (n : Int) (w : World) (h0 : 0 ≤ n) (h1 : n < 4294967296) :
    Calls Try.prog 94 #[.int .u32 n] w (SomeI w) := by
  go_enter Try.func94, Try.ntmps94
  go_wp2_with fail
  refine (len_w n _ h0 h1).mono ?_
  rintro e w' ⟨m, rfl, rfl⟩
  go_wp2
  go_ret
  exact ⟨_, rfl, rfl⟩

/-- the table of package bits, whatever it holds -/
def Glob (w : World) : Prop := ∃ cs : Array Value, w.heap[0]? = some (Obj.cells cs 144 (0, 0)) ∧ ∀ k, k < 32 → ∃ m : Int, cs[k]? = some (.int .u8 m) ∧ 0 ≤ m ∧ m ≤ 255
theorem Glob.stay {w w' : World} (h : Glob w) (s : Stay w w') : Glob w' := by
  obtain ⟨cs, h1, h2⟩ := h
  exact ⟨cs, s 0 cs 144 h1 (.inr (.inr (.inr rfl))), h2⟩

theorem tz_any (n : Int) (w : World) (hg : Glob w) : Calls Try.prog 95 #[.int .u32 n] w (SomeI w) := by
  by_cases h : n = 0
  · subst h; exact tz_0 w
  · obtain ⟨cs, h1, h2⟩ := hg
    have hk : (bits BinOp.and IntKind.u32 n (-n % 4294967296) * 125613361 % 4294967296 / 134217728).toNat < 32 := by omega
    obtain ⟨m, h3, h4, h5⟩ := h2 _ hk
    exact tz_w n w (by simpa using h) m h4 h5 (cell_at h1 h3)

def SomeB (w : World) (e : Ending) (w' : World) : Prop := ∃ b : Bool, e = .returned (.bool b) ∧ w = w'

set_option maxRecDepth 100000 in
set_option maxHeartbeats 400000 in
theorem leaf_cb_w (b : Nat) (i occ : Int) (w : World) (hg : Glob w) (hc : w.cell? ⟨b, 32, none⟩ = some (.int .u32 occ)) :
    Calls Try.prog 88 #[.pointer (some ⟨b, 0, none⟩), .int .i64 i] w (SomeB w) := by
  go_enter Try.func88, Try.ntmps88
  go_wp2_with fail
  refine (tz_any _ _ hg).mono ?_
  rintro e w' ⟨m, rfl, rfl⟩
  go_wp2
  go_ret
  exact ⟨_, rfl, rfl⟩

set_option maxRecDepth 100000 in
set_option maxHeartbeats 400000 in
theorem leaf_ca_w (b : Nat) (i occ : Int) (w : World) (h0 : 0 ≤ occ) (h1 : occ < 4294967296) (hc : w.cell? ⟨b, 32, none⟩ = some (.int .u32 occ)) :
    Calls Try.prog 87 #[.pointer (some ⟨b, 0, none⟩), .int .i64 i] w (SomeB w) := by
  go_enter Try.func87, Try.ntmps87
  go_wp2_with fail
  refine (lz_w _ _ h0 h1).mono ?_
  rintro e w' ⟨m, rfl, rfl⟩
  go_wp2
  go_ret
  exact ⟨_, rfl, rfl⟩

/-- the zeros of a new leaf, and a number in its last cell -/
def zleaf (occ : Int) : List Value := [.int .i64 0, .int .i64 0, .int .i64 0, .int .i64 0, .int .i64 0, .int .i64 0, .int .i64 0, .int .i64 0, .int .i64 0, .int .i64 0, .int .i64 0, .int .i64 0, .int .i64 0, .int .i64 0, .int .i64 0, .int .i64 0, .int .i64 0, .int .i64 0, .int .i64 0, .int .i64 0, .int .i64 0, .int .i64 0, .int .i64 0, .int .i64 0, .int .i64 0, .int .i64 0, .int .i64 0, .int .i64 0, .int .i64 0, .int .i64 0, .int .i64 0, .int .i64 0, .int .u32 occ]
theorem size2 : (Try.prog.info? 2).map (·.size) = some 1 := by kernel_rfl

/-- a part of a row that is copied into a row -/
theorem seg_len {arr : Array Value} {o n : Nat} (h : o + n ≤ arr.size) : ((arr.toList.drop o).take n).length = n := by simp; omega
theorem seg_get {arr : Array Value} {o n k : Nat} {v : Value} (h : ((arr.toList.drop o).take n)[k]? = some v) : k < n ∧ arr[o + k]? = some v := by
  rw [List.getElem?_take] at h
  split at h
  · rename_i hk
    rw [List.getElem?_drop] at h
    exact ⟨hk, by simpa using h⟩
  · cases h
theorem seg_one {arr : Array Value} {o n : Nat} (h : arr.all (·.oneCell') = true) : ∀ v ∈ (arr.toList.drop o).take n, v.oneCell' = true := by
  intro v hv
  have h1 := List.mem_of_mem_drop (List.mem_of_mem_take hv)
  exact (Array.all_eq_true_iff_forall_mem.1 h) v (by simpa using h1)
theorem splice_get (L : List Value) (arr : Array Value) (o n s : Nat) (hn : s + n ≤ arr.size) (hL : o + n ≤ L.length) (k : Nat) :
    (splice L o ((arr.toList.drop s).take n)).toArray[k]? = if o ≤ k ∧ k < o + n then arr[s + (k - o)]? else L[k]? := by
  unfold splice
  have hl := seg_len hn
  rw [List.getElem?_toArray]
  rw [List.getElem?_append]
  have ht : (L.take o).length = o := by simp; omega
  rw [ht]
  by_cases h1 : k < o
  · rw [if_pos h1, if_neg (by omega), List.getElem?_take, if_pos h1]
  · rw [if_neg h1, List.getElem?_append, hl]
    by_cases h2 : k - o < n
    · rw [if_pos h2, if_pos (by omega), List.getElem?_take, if_pos h2, List.getElem?_drop]
      simp
    · rw [if_neg h2, if_neg (by omega), List.getElem?_drop]
      congr 1
      omega
theorem splice_size (L : List Value) (arr : Array Value) (o n s : Nat) (hn : s + n ≤ arr.size) (hL : o + n ≤ L.length) :
    (splice L o ((arr.toList.drop s).take n)).toArray.size = L.length := by
  have := length_splice L o ((arr.toList.drop s).take n) (by rw [seg_len hn]; exact hL)
  simpa using this

/-- the post of a delete: another leaf that has what lay from lo on and ahead of hi, or the same -/
def DelLeaf (w : World) (b : Nat) (arr : Array Value) (lo hi : Nat) (e : Ending) (w' : World) : Prop :=
  ∃ (n : Nat) (arr' : Array Value) (occ' : Int), e = .returned (.iface 111 (.pointer (some ⟨n, 0, none⟩))) ∧ w'.heap[n]? = some (.cells arr' 110 (0, 0)) ∧ arr'.size = 33 ∧
    arr'[32]? = some (.int .u32 occ') ∧ 0 ≤ occ' ∧ occ' < 4294967296 ∧ (∀ k, k < 32 → (lo ≤ k ∧ k < hi → arr'[k]? = arr[k]?) ∧ (¬ (lo ≤ k ∧ k < hi) → arr'[k]? = some (.int .i64 0) ∨ arr'[k]? = arr[k]?)) ∧ Below w.heap.size w w' ∧ (n = b ∨ w.heap.size ≤ n)

theorem zleaf_len (occ : Int) : (zleaf occ).length = 33 := rfl
theorem zleaf_get (occ : Int) : ∀ k, k < 32 → (zleaf occ)[k]? = some (.int .i64 0) := by
  intro k hk
  have : ∀ k : Fin 32, (zleaf occ)[k.val]? = some (.int .i64 0) := by
    intro k
    rcases k with ⟨k, hk⟩
    iterate 32 (rcases k with _ | k; · rfl)
    omega
  exact this ⟨k, hk⟩
theorem zleaf_last (occ : Int) : (zleaf occ)[32]? = some (.int .u32 occ) := rfl

/-- what stands at the end of a delete: the last cell of the new leaf is written once more -/
theorem del_leaf_end {w W' : World} {b : Nat} {arr : Array Value} {occ X : Int} {o n hi : Nat} (hs : arr.size = 33) (ho : o + n ≤ 32) (hhi : o + n = hi)
    (hZ : W'.heap[w.heap.size]? = some (.cells (splice (zleaf occ) o ((arr.toList.drop o).take n)).toArray 110 (0, 0))) (hB : Below w.heap.size w W') (hX : 0 ≤ X ∧ X < 4294967296) :
    DelLeaf w b arr o hi (.returned (.iface 111 (.pointer (some ⟨w.heap.size, 0, none⟩)))) (W'.setCell ⟨w.heap.size, 32, none⟩ (.int .u32 X)).drew := by
  subst hhi
  have hsz := splice_size (zleaf occ) arr o n o (by omega) (by rw [zleaf_len]; omega)
  rw [zleaf_len] at hsz
  refine ⟨w.heap.size, (splice (zleaf occ) o ((arr.toList.drop o).take n)).toArray.setIfInBounds 32 (.int .u32 X), X, rfl, ?_, ?_, ?_, hX.1, hX.2, ?_, (hB.setCell (Nat.le_refl _) _).drew, .inr (Nat.le_refl _)⟩
  · rw [heap_drew]
    exact heap_setCell_same _ _ _ _ _ _ hZ
  · rw [Array.size_setIfInBounds]; exact hsz
  · rw [Array.getElem?_setIfInBounds_self_of_lt (by omega)]
  · intro k hk
    rw [Array.getElem?_setIfInBounds_ne (by omega), splice_get _ _ _ _ _ (by omega) (by rw [zleaf_len]; omega)]
    constructor
    · rintro ⟨h1, h2⟩
      rw [if_pos ⟨h1, h2⟩]
      congr 1
      omega
    · intro h1
      rw [if_neg h1]
      exact .inl (zleaf_get occ k hk)

set_option maxRecDepth 100000 in
set_option maxHeartbeats 800000 in
theorem leaf_db_w (b : Nat) (arr : Array Value) (occ i : Int) (j : Nat) (w : World) (hg : Glob w) (hb : bits BinOp.and IntKind.i64 i 31 = j) (hj : j < 32)
    (hblk : w.heap[b]? = some (.cells arr 110 (0, 0))) (hs : arr.size = 33) (hone : arr.all (·.oneCell') = true) (ho : arr[32]? = some (.int .u32 occ)) (h0 : 0 ≤ occ ∧ occ < 4294967296) :
    Calls Try.prog 90 #[.pointer (some ⟨b, 0, none⟩), .int .i64 i, .bool false] w (DelLeaf w b arr j 32) := by
  have hc := cell_at hblk ho
  have H0 := Lib.hid h0
  clear h0
  go_enter Try.func90, Try.ntmps90
  go_wp2_with fail
  refine (leaf_cb_w b i occ _ hg hc).mono ?_
  rintro e w' ⟨m, rfl, rfl⟩
  cases m
  · go_wp2
    go_ret
    exact ⟨b, arr, occ, rfl, hblk, hs, ho, H0.out.1, H0.out.2, fun k hk => ⟨fun _ => rfl, fun _ => .inr rfl⟩, Below.refl _ _, .inl rfl⟩
  · go_wp2
    change Code.wp _ _ _ _ (w.alloc (Obj.cells (zleaf occ).toArray 110))
    have hZ : Hid ((w.alloc (Obj.cells (zleaf occ).toArray 110)).heap[w.heap.size]? = some (.cells (zleaf occ).toArray 110 (0, 0))) := heap_alloc_last w _
    have hB : Below w.heap.size w (w.alloc (Obj.cells (zleaf occ).toArray 110)) := (Below.refl _ _).alloc (Nat.le_refl _) _
    generalize hW : w.alloc (Obj.cells (zleaf occ).toArray 110) = W at hZ hB ⊢
    clear hW
    have hsl1 := slice107_l w.heap.size 0 j hj
    have hsl2 := slice107_l b 0 j hj
    refine region_tail 12 (by kernel_rfl) (by kernel_rfl) ?_
    simp only [List.take_succ_cons, List.take_zero, List.drop_succ_cons, List.drop_zero]
    repeat still_step
    refine wpStill_nil ?_
    clear hsl1 hsl2
    have hcs := fun (k : Nat) (v : Value) (h : ((arr.toList.drop j).take (32 - j))[k]? = some v) => (seg_get h).2
    refine wpList_copy_splice rfl (.tmp 43) (.tmp 49) 32 32 rfl 2 Try.underlying32 size2 _ _ _ _ _ _ rfl rfl w.heap.size j (zleaf occ) 110 hZ ((arr.toList.drop j).take (32 - j)) ?c1 ?c2 ?c3 ?c4 w.heap.size w hB.drew (Nat.le_refl _) ?_
    case c1 => rw [seg_len (by omega)]; exact (Nat.min_self _).symm
    case c2 =>
      intro _
      refine ⟨rfl, _, rfl, fun k v hv => ?_⟩
      rw [addr_add]
      exact (hB.drew.cell (p := ⟨b, j + k, none⟩) (lt_of_block hblk)).trans (cell_at hblk (hcs k v hv))
    case c3 => rw [seg_len (by omega), zleaf_len]; omega
    case c4 => exact seg_one hone
    clear hcs hZ hB W
    intro W hZ hB
    have hc32 : W.cell? ⟨w.heap.size, 32, none⟩ = some (.int .u32 occ) := by
      refine cell_at hZ.out ?_
      rw [splice_get _ _ _ _ _ (by omega) (by rw [zleaf_len]; omega), if_neg (by omega)]
      exact zleaf_last occ
    have hf32 : W.frozen? ⟨w.heap.size, 32, none⟩ = false := frozen_of_row _ _ _ _ _ hZ.out
    have HB := Lib.hid hB
    clear hB
    have hsg : IntKind.u32.signed = false := rfl
    go_wp2
    refine region_tail 11 (by kernel_rfl) (by kernel_rfl) ?_
    simp only [List.take_succ_cons, List.take_zero, List.drop_succ_cons, List.drop_zero]
    repeat still_step
    refine wpStill_nil ?_
    go_wp2
    go_ret
    exact del_leaf_end hs (by omega) (by omega) hZ.out HB.out (u32_and occ _)

end Go.Proofs.Ytnahipfdnadccaa

namespace Go.Proofs.Ytnahipfdnadccaa
open Go.RowKit

set_option maxRecDepth 100000 in
set_option maxHeartbeats 800000 in
theorem leaf_da_w (b : Nat) (arr : Array Value) (occ i : Int) (j : Nat) (w : World) (hb : bits BinOp.and IntKind.i64 i 31 = j) (hj : j < 32)
    (hblk : w.heap[b]? = some (.cells arr 110 (0, 0))) (hs : arr.size = 33) (hone : arr.all (·.oneCell') = true) (ho : arr[32]? = some (.int .u32 occ)) (h0 : 0 ≤ occ ∧ occ < 4294967296) :
    Calls Try.prog 89 #[.pointer (some ⟨b, 0, none⟩), .int .i64 i, .bool false] w (DelLeaf w b arr 0 (j + 1)) := by
  have hc := cell_at hblk ho
  have H0 := Lib.hid h0
  clear h0
  go_enter Try.func89, Try.ntmps89
  go_wp2_with fail
  refine (leaf_ca_w b i occ _ H0.out.1 H0.out.2 hc).mono ?_
  rintro e w' ⟨m, rfl, rfl⟩
  cases m
  · go_wp2
    go_ret
    exact ⟨b, arr, occ, rfl, hblk, hs, ho, H0.out.1, H0.out.2, fun k hk => ⟨fun _ => rfl, fun _ => .inr rfl⟩, Below.refl _ _, .inl rfl⟩
  · go_wp2
    change Code.wp _ _ _ _ (w.alloc (Obj.cells (zleaf occ).toArray 110))
    have hZ : Hid ((w.alloc (Obj.cells (zleaf occ).toArray 110)).heap[w.heap.size]? = some (.cells (zleaf occ).toArray 110 (0, 0))) := heap_alloc_last w _
    have hB : Below w.heap.size w (w.alloc (Obj.cells (zleaf occ).toArray 110)) := (Below.refl _ _).alloc (Nat.le_refl _) _
    generalize hW : w.alloc (Obj.cells (zleaf occ).toArray 110) = W at hZ hB ⊢
    clear hW
    have hsl1 := slice107_h w.heap.size 0 j hj
    have hsl2 := slice107_h b 0 j hj
    have hw1 : IntKind.i64.wrap ((j : Int) + 1) = (j : Int) + 1 := by rw [IntKind.wrap_i64]; omega
    refine region_tail 14 (by kernel_rfl) (by kernel_rfl) ?_
    simp only [List.take_succ_cons, List.take_zero, List.drop_succ_cons, List.drop_zero]
    repeat still_step
    refine wpStill_nil ?_
    clear hsl1 hsl2 hw1
    have hcs := fun (k : Nat) (v : Value) (h : ((arr.toList.drop 0).take (j + 1))[k]? = some v) => (seg_get h).2
    refine wpList_copy_splice rfl (.tmp 45) (.tmp 52) 32 32 rfl 2 Try.underlying32 size2 _ _ _ _ _ _ rfl rfl w.heap.size 0 (zleaf occ) 110 hZ ((arr.toList.drop 0).take (j + 1)) ?c1 ?c2 ?c3 ?c4 w.heap.size w hB.drew (Nat.le_refl _) ?_
    case c1 => rw [seg_len (by omega)]; exact (Nat.min_self _).symm
    case c2 =>
      intro _
      refine ⟨rfl, _, rfl, fun k v hv => ?_⟩
      rw [addr_add]
      exact (hB.drew.cell (p := ⟨b, 0 + k, none⟩) (lt_of_block hblk)).trans (cell_at hblk (hcs k v hv))
    case c3 => rw [seg_len (by omega), zleaf_len]; omega
    case c4 => exact seg_one hone
    clear hcs hZ hB W
    intro W hZ hB
    have hc32 : W.cell? ⟨w.heap.size, 32, none⟩ = some (.int .u32 occ) := by
      refine cell_at hZ.out ?_
      rw [splice_get _ _ _ _ _ (by omega) (by rw [zleaf_len]; omega), if_neg (by omega)]
      exact zleaf_last occ
    have hf32 : W.frozen? ⟨w.heap.size, 32, none⟩ = false := frozen_of_row _ _ _ _ _ hZ.out
    have HB := Lib.hid hB
    clear hB
    have hsg : IntKind.u32.signed = false := rfl
    go_wp2
    have hw1 : IntKind.i64.wrap ((j : Int) + 1) = (j : Int) + 1 := by rw [IntKind.wrap_i64]; omega
    have hw2 : 0 ≤ (j : Int) + 1 := by omega
    have hw3 : ((j : Int) + 1).toNat = j + 1 := by omega
    refine region_tail 11 (by kernel_rfl) (by kernel_rfl) ?_
    simp only [List.take_succ_cons, List.take_zero, List.drop_succ_cons, List.drop_zero]
    repeat still_step
    refine wpStill_nil ?_
    clear hw1 hw2 hw3
    go_wp2
    go_ret
    exact del_leaf_end hs (by omega) (by omega) hZ.out HB.out (u32_and occ _)

/-- the post of a delete, in words of nodes -/
def DelPost (S : Nat → Prop) (w : World) (d : Nat) (g : Nat → Option Int) (e : Ending) (w' : World) : Prop :=
  ∃ v', e = .returned v' ∧ Node (New S w) w' d v' g ∧ Below w.heap.size w w'

theorem DelLeaf.node {S : Nat → Prop} {w : World} {b : Nat} {arr : Array Value} {lo hi : Nat} {f : Nat → Option Int} {e : Ending} {w' : World} (h : DelLeaf w b arr lo hi e w')
    (h7 : ∀ k, k < 32 → ∃ x, arr[k]? = some (.int .i64 x) ∧ ∀ y, f k = some y → y = x) (hS : S b) : DelPost S w 0 (fun k => if lo ≤ k ∧ k < hi then f k else none) e w' := by
  obtain ⟨n, arr', occ', h1, h2, h3, h4, h5, h6, h8, h9, h10⟩ := h
  refine ⟨_, h1, ⟨n, arr', occ', rfl, h2, h3, h4, h5, h6, fun k hk => ?_, by rcases h10 with h | h; exact .inl (h ▸ hS); exact .inr h⟩, h9⟩
  obtain ⟨x, hx, hy⟩ := h7 k hk
  by_cases hc : lo ≤ k ∧ k < hi
  · refine ⟨x, ((h8 k hk).1 hc).trans hx, fun y hg => ?_⟩
    simp only [if_pos hc] at hg
    exact hy y hg
  · rcases (h8 k hk).2 hc with h | h
    · exact ⟨0, h, fun y hg => by simp only [if_neg hc] at hg; cases hg⟩
    · exact ⟨x, h.trans hx, fun y hg => by simp only [if_neg hc] at hg; cases hg⟩

def before (i : Int) (d : Nat) (f : Nat → Option Int) (k : Nat) : Option Int := if loc i d ≤ k then f k else none
def behind (i : Int) (d : Nat) (f : Nat → Option Int) (k : Nat) : Option Int := if k ≤ loc i d then f k else none

theorem leaf_db {S : Nat → Prop} {w : World} {p : Nat} {f : Nat → Option Int} (i : Int) (hg : Glob w) (h : Node S w 0 (.iface 111 (.pointer (some ⟨p, 0, none⟩))) f) :
    Calls Try.prog 90 #[.pointer (some ⟨p, 0, none⟩), .int .i64 i, .bool false] w (DelPost S w 0 (before i 0 f)) := by
  obtain ⟨b, arr, occ, h1, h2, h3, h4, h5, h6, h7, h8⟩ := h
  simp only [Value.iface.injEq, Value.pointer.injEq, Option.some.injEq, Addr.mk.injEq, true_and, and_true] at h1
  subst h1
  refine (leaf_db_w p arr occ i (slot i 0) w hg (slot0 i) (slot_lt i 0) h2 h3 (leaf_one h3 h4 h7) h4 ⟨h5, h6⟩).mono fun e w' h => ?_
  obtain ⟨v', a, b, c⟩ := h.node h7 h8
  exact ⟨v', a, b.mono _ _ _ _ (fun j y hj hy => by unfold before at hy; rw [loc0] at hy; split at hy <;> simp_all), c⟩

theorem leaf_da {S : Nat → Prop} {w : World} {p : Nat} {f : Nat → Option Int} (i : Int) (h : Node S w 0 (.iface 111 (.pointer (some ⟨p, 0, none⟩))) f) :
    Calls Try.prog 89 #[.pointer (some ⟨p, 0, none⟩), .int .i64 i, .bool false] w (DelPost S w 0 (behind i 0 f)) := by
  obtain ⟨b, arr, occ, h1, h2, h3, h4, h5, h6, h7, h8⟩ := h
  simp only [Value.iface.injEq, Value.pointer.injEq, Option.some.injEq, Addr.mk.injEq, true_and, and_true] at h1
  subst h1
  refine (leaf_da_w p arr occ i (slot i 0) w (slot0 i) (slot_lt i 0) h2 h3 (leaf_one h3 h4 h7) h4 ⟨h5, h6⟩).mono fun e w' h => ?_
  obtain ⟨v', a, b, c⟩ := h.node h7 h8
  refine ⟨v', a, b.mono _ _ _ _ (fun j y hj hy => ?_), c⟩
  unfold behind at hy
  rw [loc0] at hy
  split at hy
  · rw [if_pos (by omega)]; exact hy
  · cases hy

/-- the cells of a new branch -/
def zbranch (d : Nat) : List Value := [.int .u64 (d : Int), .nilIface, .nilIface, .nilIface, .nilIface, .nilIface, .nilIface, .nilIface, .nilIface, .nilIface, .nilIface, .nilIface, .nilIface, .nilIface, .nilIface, .nilIface, .nilIface, .nilIface, .nilIface, .nilIface, .nilIface, .nilIface, .nilIface, .nilIface, .nilIface, .nilIface, .nilIface, .nilIface, .nilIface, .nilIface, .nilIface, .nilIface, .nilIface]
theorem zbranch_len (d : Nat) : (zbranch d).length = 33 := rfl
theorem zbranch_get (d : Nat) : ∀ k, k < 32 → (zbranch d)[1 + k]? = some .nilIface := by
  intro k hk
  have : ∀ k : Fin 32, (zbranch d)[1 + k.val]? = some .nilIface := by
    intro k
    rcases k with ⟨k, hk⟩
    iterate 32 (rcases k with _ | k; · rfl)
    omega
  exact this ⟨k, hk⟩

/-- a new node is a node of nothing -/
theorem new_leaf (S : Nat → Prop) (w : World) (B : Nat) (h : B = w.heap.size) : Node (New S w) (w.alloc (Obj.cells (zleaf 0).toArray 110)) 0 (.iface 111 (.pointer (some ⟨B, 0, none⟩))) (fun _ => none) := by
  subst h
  refine ⟨_, _, 0, rfl, heap_alloc_last w _, by rw [List.size_toArray, zleaf_len], by rw [List.getElem?_toArray]; rfl, by omega, by omega, fun k hk => ⟨0, by rw [List.getElem?_toArray]; exact zleaf_get 0 k hk, fun y hy => by cases hy⟩, .inr (Nat.le_refl _)⟩
theorem new_branch (S : Nat → Prop) (w : World) (d B : Nat) (h : B = w.heap.size) : Node (New S w) (w.alloc (Obj.cells (zbranch (d + 1)).toArray 125)) (d + 1) (.iface 122 (.pointer (some ⟨B, 0, none⟩))) (fun _ => none) := by
  subst h
  refine ⟨_, _, rfl, heap_alloc_last w _, by rw [List.size_toArray, zbranch_len], by rw [List.getElem?_toArray]; rfl, fun k hk => ⟨_, by rw [List.getElem?_toArray]; exact zbranch_get (d + 1) k hk, .inl ⟨rfl, fun _ _ => rfl⟩⟩, .inr (Nat.le_refl _)⟩

set_option maxRecDepth 100000 in
set_option maxHeartbeats 400000 in
theorem new_w0 (S : Nat → Prop) (w : World) : Calls Try.prog 104 #[.int .u64 0] w (DelPost S w 0 (fun _ => none)) := by
  go_enter Try.func104, Try.ntmps104
  go_wp2
  go_ret
  exact ⟨_, rfl, new_leaf S w _ rfl, (Below.refl _ _).alloc (Nat.le_refl _) _⟩

set_option maxRecDepth 100000 in
set_option maxHeartbeats 400000 in
theorem new_w1 (S : Nat → Prop) (d : Nat) (w : World) (hd : d < 12) : Calls Try.prog 104 #[.int .u64 ((d : Int) + 1)] w (DelPost S w (d + 1) (fun _ => none)) := by
  have h : ((d : Int) + 1 == 0) = false := by simp; omega
  go_enter Try.func104, Try.ntmps104
  go_wp2
  go_ret
  exact ⟨_, rfl, new_branch S w d _ rfl, (Below.refl _ _).alloc (Nat.le_refl _) _⟩

set_option maxRecDepth 100000 in
set_option maxHeartbeats 400000 in
theorem depth_w0 (a : Addr) (w : World) : Calls Try.prog 91 #[.pointer (some a)] w fun e w' => e = .returned (.int .u64 0) ∧ w = w' := by
  go_enter Try.func91, Try.ntmps91
  go_wp2
  go_ret
  exact ⟨rfl, rfl⟩

set_option maxRecDepth 100000 in
set_option maxHeartbeats 400000 in
theorem depth_w1 (b : Nat) (d : Int) (w : World) (hc : w.cell? ⟨b, 0, none⟩ = some (.int .u64 d)) : Calls Try.prog 101 #[.pointer (some ⟨b, 0, none⟩)] w fun e w' => e = .returned (.int .u64 d) ∧ w = w' := by
  go_enter Try.func101, Try.ntmps101
  go_wp2
  go_ret
  exact ⟨rfl, rfl⟩

theorem depth_any {S : Nat → Prop} {w : World} {p d : Nat} {f : Nat → Option Int} (h : Node S w d (.iface (ty d) (.pointer (some ⟨p, 0, none⟩))) f) :
    Calls Try.prog (fn 91 101 d) #[.pointer (some ⟨p, 0, none⟩)] w fun e w' => e = .returned (.int .u64 (d : Int)) ∧ w = w' := by
  cases d with
  | zero => exact depth_w0 _ w
  | succ d =>
    obtain ⟨b, arr, h1, h2, h3, h4, h5, h6⟩ := h
    simp only [Value.iface.injEq, Value.pointer.injEq, Option.some.injEq, Addr.mk.injEq, and_true] at h1
    obtain ⟨_, h1⟩ := h1
    subst h1
    exact depth_w1 p _ w (cell_at h2 h4)

end Go.Proofs.Ytnahipfdnadccaa
