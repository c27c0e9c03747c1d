/- Deletes in place, of nodes whose children share no block. Conditions of this file: none. -/
import Derived.Test.YtnahipfdnadccaaSepD
namespace Go.Proofs.Ytnahipfdnadccaa
open Go.RowKit

/-- arr' is arr, but for z from lo on and ahead of hi -/
def Zed (arr arr' : Array Value) (lo hi : Nat) (z : Value) : Prop := arr'.size = arr.size ∧ ∀ k, arr'[k]? = if lo ≤ k ∧ k < hi then some z else arr[k]?
theorem Zed.nil (arr : Array Value) (lo : Nat) (z : Value) : Zed arr arr lo lo z := ⟨rfl, fun k => by rw [if_neg (by omega)]⟩
theorem Zed.step {arr arr' : Array Value} {lo hi : Nat} {z : Value} (h : Zed arr arr' lo hi z) (hl : lo ≤ hi) (hs : hi < arr.size) : Zed arr (arr'.setIfInBounds hi z) lo (hi + 1) z := by
  refine ⟨by rw [Array.size_setIfInBounds]; exact h.1, fun k => ?_⟩
  by_cases e : k = hi
  · subst e
    rw [Array.getElem?_setIfInBounds_self_of_lt (by rw [h.1]; exact hs), if_pos (by omega)]
  · rw [Array.getElem?_setIfInBounds_ne (fun h => e h.symm), h.2 k]
    by_cases h1 : lo ≤ k ∧ k < hi
    · rw [if_pos h1, if_pos (by omega)]
    · rw [if_neg h1, if_neg (by omega)]
theorem Zed.at {arr arr' : Array Value} {lo hi : Nat} {z : Value} (h : Zed arr arr' lo hi z) {k : Nat} (hk : k < arr.size) : ∃ y, arr'[k]? = some y := by
  rw [h.2 k]
  split
  · exact ⟨_, rfl⟩
  · exact ⟨_, Array.getElem?_eq_getElem hk⟩

/-- behind a delete in place of a leaf -/
def LeafDel (w : World) (b : Nat) (arr : Array Value) (occ : Int) (lo hi : Nat) (e : Ending) (w' : World) : Prop :=
  e = .returned (.iface 111 (.pointer (some ⟨b, 0, none⟩))) ∧ ∃ (arr' : Array Value) (occ' : Int), w'.heap[b]? = some (.cells (arr'.setIfInBounds 32 (.int .u32 occ')) 110 (0, 0)) ∧ 0 ≤ occ' ∧ occ' < 4294967296 ∧
    (Zed arr arr' lo hi (.int .i64 0) ∨ (arr' = arr ∧ occ' = occ)) ∧ But (· = b) w w'

theorem leaf_fin {w wr : World} {b lo hi : Nat} {arr arr' : Array Value} {occ X : Int} (hz : Zed arr arr' lo hi (.int .i64 0)) (hk : wr.heap[b]? = some (.cells arr' 110 (0, 0))) (hb : But (· = b) w wr) (hX : 0 ≤ X ∧ X < 4294967296) :
    LeafDel w b arr occ lo hi (.returned (.iface 111 (.pointer (some ⟨b, 0, none⟩)))) (wr.setCell ⟨b, 32, none⟩ (.int .u32 X)).drew := by
  refine ⟨rfl, arr', X, ?_, hX.1, hX.2, .inl hz, (hb.setCell (p := ⟨b, 32, none⟩) (.inl rfl) _).drew⟩
  rw [heap_drew]
  exact heap_setCell_same wr b 32 _ 110 _ hk

set_option maxRecDepth 100000 in
set_option maxHeartbeats 1600000 in
theorem leaf_dbm_w (b : Nat) (arr : Array Value) (occ i : Int) (j : Nat) (w : World) (hg : Glob w) (hb : bits BinOp.and IntKind.i64 i 31 = j) (hj : j < 32)
    (hblk : w.heap[b]? = some (.cells arr 110 (0, 0))) (hs : arr.size = 33) (ho : arr[32]? = some (.int .u32 occ)) (h0 : 0 ≤ occ ∧ occ < 4294967296) :
    Calls Try.prog 90 #[.pointer (some ⟨b, 0, none⟩), .int .i64 i, .bool true] w (LeafDel w b arr occ 0 j) := by
  have hc := cell_at hblk ho
  have H0 := Lib.hid h0
  have HBK := Lib.hid hblk
  have HSZ := Lib.hid hs
  have HOC := Lib.hid ho
  clear h0
  go_enter Try.func90, Try.ntmps90
  go_wp2_with fail
  refine (leaf_cb_w b i occ _ hg hc).mono ?_
  rintro e w' ⟨m, rfl, rfl⟩
  cases m
  · go_wp2
    go_ret
    refine ⟨rfl, arr, occ, ?_, H0.out.1, H0.out.2, .inr ⟨rfl, rfl⟩, But.refl _ _⟩
    rw [HBK.out]
    congr 2
    apply Array.ext_getElem?
    intro k
    by_cases e : 32 = k
    · subst e
      rw [Array.getElem?_setIfInBounds_self_of_lt (by rw [HSZ.out]; omega)]
      exact HOC.out
    · rw [Array.getElem?_setIfInBounds_ne e]
  · clear hc hblk hs ho
    go_wp2_with fail
    go_loopg [10] j (fun q v10 wr => ∃ m : Nat, m + q = j ∧ 0 ≤ m ∧ v10 = .int .i64 (m : Int) ∧ But (· = b) w wr ∧ ∃ arr' : Array Value, Zed arr arr' 0 m (.int .i64 0) ∧ wr.heap[b]? = some (.cells arr' 110 (0, 0)))
    case atStart => exact ⟨0, by omega, by omega, rfl, But.refl _ _, arr, Zed.nil _ _ _, HBK.out⟩
    case round =>
      obtain ⟨m, hmq, hml, rfl, hbut, arr', hz, hblk⟩ := hrel
      have HB := Lib.hid hbut
      have HZ := Lib.hid hz
      have HK := Lib.hid hblk
      clear hbut hz hblk
      by_cases hlt : m < j
      · have h1 : decide ((m : Int) < (j : Int)) = true := by simp; omega
        have hm32 : m < 32 := by omega
        obtain ⟨y, hy⟩ := HZ.out.at (k := m) (by rw [HSZ.out]; omega)
        have cm := cell_at HK.out hy
        have fm : wr.frozen? ⟨b, m, none⟩ = false := frozen_of_row _ _ _ _ _ HK.out
        have hw1 : IntKind.i64.wrap ((m : Int) + 1) = ((m + 1 : Nat) : Int) := by rw [IntKind.wrap_i64]; omega
        clear hy
        go_upto_region 10 with (fail)
        have hX := HB.out.setCell (p := ⟨b, m, none⟩) (.inl rfl) (.int .i64 0)
        have hXs := heap_setCell_same wr b m _ 110 (.int .i64 0) HK.out
        clear cm fm
        generalize wr.setCell ⟨b, m, none⟩ (.int .i64 0) = X at hX hXs ⊢
        have HX := Lib.hid (And.intro hX hXs)
        clear hX hXs
        go_wp2_with fail
        go_roundg (gk - 1)
        case measure => omega
        case rel => exact ⟨m + 1, by omega, by omega, rfl, HX.out.1, _, HZ.out.step (by omega) (by rw [HSZ.out]; omega), HX.out.2⟩
      · have h1 : decide ((m : Int) < (j : Int)) = false := by simp; omega
        obtain rfl : j = m := by omega
        have h32 : arr'[32]? = some (.int .u32 occ) := by rw [HZ.out.2 32, if_neg (by omega)]; exact HOC.out
        have hc32 := cell_at HK.out h32
        have hf32 : wr.frozen? ⟨b, 32, none⟩ = false := frozen_of_row _ _ _ _ _ HK.out
        have hsg : IntKind.u32.signed = false := rfl
        clear h32
        go_wp2
        refine region_tail 11 (by kernel_rfl) (by kernel_rfl) ?_
        simp only [List.take_succ_cons, List.take_zero, List.drop_succ_cons, List.drop_zero]
        repeat still_step
        refine wpStill_nil ?_
        go_wp2
        go_ret
        exact leaf_fin HZ.out HK.out HB.out (u32_and occ _)

set_option maxRecDepth 100000 in
set_option maxHeartbeats 1600000 in
theorem leaf_dam_w (b : Nat) (arr : Array Value) (occ i : Int) (j : Nat) (w : World) (hb : bits BinOp.and IntKind.i64 i 31 = j) (hj : j < 32)
    (hblk : w.heap[b]? = some (.cells arr 110 (0, 0))) (hs : arr.size = 33) (ho : arr[32]? = some (.int .u32 occ)) (h0 : 0 ≤ occ ∧ occ < 4294967296) :
    Calls Try.prog 89 #[.pointer (some ⟨b, 0, none⟩), .int .i64 i, .bool true] w (LeafDel w b arr occ (j + 1) 32) := by
  have hc := cell_at hblk ho
  have H0 := Lib.hid h0
  have HBK := Lib.hid hblk
  have HSZ := Lib.hid hs
  have HOC := Lib.hid ho
  clear h0
  go_enter Try.func89, Try.ntmps89
  go_wp2_with fail
  refine (leaf_ca_w b i occ _ H0.out.1 H0.out.2 hc).mono ?_
  rintro e w' ⟨m, rfl, rfl⟩
  cases m
  · go_wp2
    go_ret
    refine ⟨rfl, arr, occ, ?_, H0.out.1, H0.out.2, .inr ⟨rfl, rfl⟩, But.refl _ _⟩
    rw [HBK.out]
    congr 2
    apply Array.ext_getElem?
    intro k
    by_cases e : 32 = k
    · subst e
      rw [Array.getElem?_setIfInBounds_self_of_lt (by rw [HSZ.out]; omega)]
      exact HOC.out
    · rw [Array.getElem?_setIfInBounds_ne e]
  · clear hc hblk hs ho
    have hw0 : IntKind.i64.wrap ((j : Int) + 1) = ((j + 1 : Nat) : Int) := by rw [IntKind.wrap_i64]; omega
    go_wp2_with fail
    go_loopg [10] (32 - (j + 1)) (fun q v10 wr => ∃ m : Nat, m + q = 32 ∧ j + 1 ≤ m ∧ v10 = .int .i64 (m : Int) ∧ But (· = b) w wr ∧ ∃ arr' : Array Value, Zed arr arr' (j + 1) m (.int .i64 0) ∧ wr.heap[b]? = some (.cells arr' 110 (0, 0)))
    case atStart => exact ⟨j + 1, by omega, by omega, rfl, But.refl _ _, arr, Zed.nil _ _ _, HBK.out⟩
    case round =>
      obtain ⟨m, hmq, hml, rfl, hbut, arr', hz, hblk⟩ := hrel
      have HB := Lib.hid hbut
      have HZ := Lib.hid hz
      have HK := Lib.hid hblk
      clear hbut hz hblk
      by_cases hlt : m < 32
      · have h1 : decide ((m : Int) < 32) = true := by simp; omega
        have hm32 : m < 32 := by omega
        obtain ⟨y, hy⟩ := HZ.out.at (k := m) (by rw [HSZ.out]; omega)
        have cm := cell_at HK.out hy
        have fm : wr.frozen? ⟨b, m, none⟩ = false := frozen_of_row _ _ _ _ _ HK.out
        have hw1 : IntKind.i64.wrap ((m : Int) + 1) = ((m + 1 : Nat) : Int) := by rw [IntKind.wrap_i64]; omega
        clear hy
        go_upto_region 10 with (fail)
        have hX := HB.out.setCell (p := ⟨b, m, none⟩) (.inl rfl) (.int .i64 0)
        have hXs := heap_setCell_same wr b m _ 110 (.int .i64 0) HK.out
        clear cm fm
        generalize wr.setCell ⟨b, m, none⟩ (.int .i64 0) = X at hX hXs ⊢
        have HX := Lib.hid (And.intro hX hXs)
        clear hX hXs
        go_wp2_with fail
        go_roundg (gk - 1)
        case measure => omega
        case rel => exact ⟨m + 1, by omega, by omega, rfl, HX.out.1, _, HZ.out.step (by omega) (by rw [HSZ.out]; omega), HX.out.2⟩
      · have h1 : decide ((m : Int) < 32) = false := by simp; omega
        obtain rfl : 32 = m := by omega
        have h32 : arr'[32]? = some (.int .u32 occ) := by rw [HZ.out.2 32, if_neg (by omega)]; exact HOC.out
        have hc32 := cell_at HK.out h32
        have hf32 : wr.frozen? ⟨b, 32, none⟩ = false := frozen_of_row _ _ _ _ _ HK.out
        have hsg : IntKind.u32.signed = false := rfl
        clear h32
        go_wp2
        refine region_tail 11 (by kernel_rfl) (by kernel_rfl) ?_
        simp only [List.take_succ_cons, List.take_zero, List.drop_succ_cons, List.drop_zero]
        repeat still_step
        refine wpStill_nil ?_
        go_wp2
        go_ret
        exact leaf_fin HZ.out HK.out HB.out (u32_and occ _)

theorem leaf_dm {S : Nat → Prop} {w : World} {p lo hi : Nat} {f g : Nat → Option Int} {arr : Array Value} {occ : Int} {e : Ending} {w' : World} (h3 : arr.size = 33) (h7 : ∀ k, k < 32 → ∃ x, arr[k]? = some (.int .i64 x) ∧ ∀ y, f k = some y → y = x) (h8 : S p)
    (hg : ∀ k y, k < 32 → g k = some y → f k = some y ∧ ¬ (lo ≤ k ∧ k < hi)) (_hhi : hi ≤ 32) (h : LeafDel w p arr occ lo hi e w') : MutPost S w 0 p g e w' := by
  obtain ⟨rfl, arr', occ', hb, ho1, ho2, hz, hbut⟩ := h
  have hsz : arr'.size = 33 := by rcases hz with hz | ⟨rfl, _⟩; rw [hz.1, h3]; exact h3
  refine ⟨rfl, ⟨p, _, occ', rfl, hb, by rw [Array.size_setIfInBounds, hsz], by rw [Array.getElem?_setIfInBounds_self_of_lt (by omega)], ho1, ho2, fun k hk => ?_, .inl h8⟩, hbut.wider fun k _ h => by rw [h]; exact h8⟩
  rw [Array.getElem?_setIfInBounds_ne (by omega)]
  obtain ⟨x, hx, hxf⟩ := h7 k hk
  rcases hz with hz | ⟨rfl, _⟩
  · rw [hz.2 k]
    by_cases hin : lo ≤ k ∧ k < hi
    · rw [if_pos hin]
      exact ⟨0, rfl, fun y hy => absurd hin (hg k y hk hy).2⟩
    · rw [if_neg hin]
      exact ⟨x, hx, fun y hy => hxf y (hg k y hk hy).1⟩
  · exact ⟨x, hx, fun y hy => hxf y (hg k y hk hy).1⟩

theorem leaf_dbm {S : Nat → Prop} {w : World} {p : Nat} {f : Nat → Option Int} (i : Int) (hg : Glob w) (h : SNode w 0 S (.iface 111 (.pointer (some ⟨p, 0, none⟩))) f) :
    Calls Try.prog 90 #[.pointer (some ⟨p, 0, none⟩), .int .i64 i, .bool true] w (MutPost S w 0 p (before i 0 f)) := by
  obtain ⟨b, arr, occ, h1, h2, h3, h4, h5, h6, h7, h8⟩ := h
  simp only [Value.iface.injEq, Value.pointer.injEq, Option.some.injEq, Addr.mk.injEq, true_and, and_true] at h1
  subst h1
  have hl := slot_lt i 0
  refine (leaf_dbm_w p arr occ i (slot i 0) w hg (slot0 i) hl h2 h3 h4 ⟨h5, h6⟩).mono fun e w' h => leaf_dm h3 h7 h8 (fun k y hk hy => ?_) (by omega) h
  unfold before at hy
  rw [loc0] at hy
  split at hy
  · exact ⟨hy, by omega⟩
  · cases hy
theorem leaf_dam {S : Nat → Prop} {w : World} {p : Nat} {f : Nat → Option Int} (i : Int) (h : SNode w 0 S (.iface 111 (.pointer (some ⟨p, 0, none⟩))) f) :
    Calls Try.prog 89 #[.pointer (some ⟨p, 0, none⟩), .int .i64 i, .bool true] w (MutPost S w 0 p (behind i 0 f)) := by
  obtain ⟨b, arr, occ, h1, h2, h3, h4, h5, h6, h7, h8⟩ := h
  simp only [Value.iface.injEq, Value.pointer.injEq, Option.some.injEq, Addr.mk.injEq, true_and, and_true] at h1
  subst h1
  have hl := slot_lt i 0
  refine (leaf_dam_w p arr occ i (slot i 0) w (slot0 i) hl h2 h3 h4 ⟨h5, h6⟩).mono fun e w' h => leaf_dm h3 h7 h8 (fun k y hk hy => ?_) (Nat.le_refl _) h
  unfold behind at hy
  rw [loc0] at hy
  split at hy
  · exact ⟨hy, by omega⟩
  · cases hy

/-- behind a delete in place of a branch -/
def BranchDelM (w : World) (b j t lo hi : Nat) (arr : Array Value) (R : World → Nat → World → Prop) (e : Ending) (w' : World) : Prop :=
  e = .returned (.iface 122 (.pointer (some ⟨b, 0, none⟩))) ∧ (w' = w ∨ ∃ (W : World) (arr' : Array Value), But (· = b) w W ∧ W.heap[b]? = some (.cells arr' 125 (0, 0)) ∧ Zed arr arr' lo hi .nilIface ∧
    ((arr[1 + j]? = some .nilIface ∧ w' = W) ∨ ∃ p q V, arr[1 + j]? = some (.iface t (.pointer (some ⟨p, 0, none⟩))) ∧ R W q V ∧ V.heap[b]? = W.heap[b]? ∧ w' = V.setCell ⟨b, 1 + j, none⟩ (.iface t (.pointer (some ⟨q, 0, none⟩)))))

set_option maxRecDepth 100000 in
set_option maxHeartbeats 1600000 in
theorem branch_dbm_w (b : Nat) (arr : Array Value) (i : Int) (j d : Nat) (w : World) (R : World → Nat → World → Prop) (hd : d + 1 < 12) (hb : bits BinOp.and IntKind.i64 (i / 2 ^ ((d + 1) * 5)) 31 = j) (hj : j < 32)
    (hblk : w.heap[b]? = some (.cells arr 125 (0, 0))) (hs : arr.size = 33) (hc0 : arr[0]? = some (.int .u64 ((d + 1 : Nat) : Int))) (t fid : Nat) (hk : Kids arr t)
    (h0 : Disp t fid "pub-frond/pub/immutable.deleteBefore")
    (hcb : Calls Try.prog 98 #[.pointer (some ⟨b, 0, none⟩), .int .i64 i] w (SomeB w))
    (hcall : ∀ p W, arr[1 + j]? = some (.iface t (.pointer (some ⟨p, 0, none⟩))) → But (· = b) w W → Calls Try.prog fid #[.pointer (some ⟨p, 0, none⟩), .int .i64 i, .bool true] W (fun e w'' => ∃ q, e = .returned (.iface t (.pointer (some ⟨q, 0, none⟩))) ∧ R W q w'' ∧ w''.heap[b]? = W.heap[b]?)) :
    Calls Try.prog 100 #[.pointer (some ⟨b, 0, none⟩), .int .i64 i, .bool true] w (BranchDelM w b j t 1 (1 + j) arr R) := by
  have hcell0 := cell_at hblk hc0
  obtain ⟨h1, h2, h3⟩ := h0
  have H4 := Lib.hid hcall; clear hcall
  have H5 := Lib.hid hcb; clear hcb
  have HKD := Lib.hid hk; clear hk
  have HBK := Lib.hid hblk
  have HSZ := Lib.hid hs
  clear hs hblk
  go_enter Try.func100, Try.ntmps100
  go_wp2_with fail
  refine H5.out.mono ?_
  rintro e w' ⟨m, rfl, rfl⟩
  cases m
  · go_wp2
    go_ret
    exact ⟨rfl, .inl rfl⟩
  · have HC0 := Lib.hid hc0
    go_wp2_with fail
    go_loopg [9] j (fun q v9 wr => ∃ m : Nat, m + q = j ∧ 0 ≤ m ∧ v9 = .int .i64 (m : Int) ∧ But (· = b) w wr ∧ ∃ arr' : Array Value, Zed arr arr' (1) (1 + m) .nilIface ∧ wr.heap[b]? = some (.cells arr' 125 (0, 0)))
    case atStart => exact ⟨0, by omega, by omega, rfl, But.refl _ _, arr, Zed.nil _ _ _, HBK.out⟩
    case round =>
      clear hcell0 hc0
      obtain ⟨m, hmq, hml, rfl, hbut, arr', hz, hblk⟩ := hrel
      have HB := Lib.hid hbut
      have HZ := Lib.hid hz
      have HK := Lib.hid hblk
      clear hbut hz hblk
      by_cases hlt : m < j
      · have hd1 : decide ((m : Int) < (j : Int)) = true := by simp; omega
        have hm32 : m < 32 := by omega
        obtain ⟨y, hy⟩ := HZ.out.at (k := 1 + m) (by rw [HSZ.out]; omega)
        have cm := cell_at HK.out hy
        have fm : wr.frozen? ⟨b, 1 + m, none⟩ = false := frozen_of_row _ _ _ _ _ HK.out
        have hw1 : IntKind.i64.wrap ((m : Int) + 1) = ((m + 1 : Nat) : Int) := by rw [IntKind.wrap_i64]; omega
        clear hy
        go_upto_region 9 with (fail)
        have hX := HB.out.setCell (p := ⟨b, 1 + m, none⟩) (.inl rfl) .nilIface
        have hXs := heap_setCell_same wr b (1 + m) _ 125 .nilIface HK.out
        clear cm fm
        generalize wr.setCell ⟨b, 1 + m, none⟩ .nilIface = X at hX hXs ⊢
        have HX := Lib.hid (And.intro hX hXs)
        clear hX hXs
        go_wp2_with fail
        go_roundg (gk - 1)
        case measure => omega
        case rel => exact ⟨m + 1, by omega, by omega, rfl, HX.out.1, _, HZ.out.step (by omega) (by rw [HSZ.out]; omega), HX.out.2⟩
      · have hd1 : decide ((m : Int) < (j : Int)) = false := by simp; omega
        obtain rfl : j = m := by omega
        have hget : arr'[1 + j]? = arr[1 + j]? := by rw [HZ.out.2 (1 + j), if_neg (by omega)]
        rcases HKD.out j hj with hc | ⟨p, hc⟩
        · have hcj := cell_at HK.out (hget.trans hc)
          clear hget
          go_wp2
          go_ret
          exact ⟨rfl, .inr ⟨wr, arr', HB.out, HK.out, HZ.out, .inl ⟨hc, rfl⟩⟩⟩
        · have hcj := cell_at HK.out (hget.trans hc)
          have HCJ := Lib.hid (hget.trans hc)
          have HPJ := Lib.hid hc
          have H6 := Lib.hid (H4.out p wr.drew hc HB.out.drew)
          clear hget hc
          go_wp2
          go_region_with (first | ((with_reducible refine H6.out.mono ?_); rintro e w' ⟨q, rfl, hr, hh⟩; have hz' : w'.heap[b]? = some (.cells arr' 125 (0, 0)) := hh.trans HK.out; have hc' := cell_at hz' HCJ.out; have hf' : w'.frozen? ⟨b, 1 + j, none⟩ = false := frozen_of_row _ _ _ _ _ hz'; have HR := Lib.hid (And.intro hr hh); clear hr hh hz'))
          go_wp2
          go_ret
          exact ⟨rfl, .inr ⟨wr.drew, arr', HB.out.drew, HK.out, HZ.out, .inr ⟨p, q, w', HPJ.out, HR.out.1, HR.out.2, rfl⟩⟩⟩

set_option maxRecDepth 100000 in
set_option maxHeartbeats 1600000 in
theorem branch_dam_w (b : Nat) (arr : Array Value) (i : Int) (j d : Nat) (w : World) (R : World → Nat → World → Prop) (hd : d + 1 < 12) (hb : bits BinOp.and IntKind.i64 (i / 2 ^ ((d + 1) * 5)) 31 = j) (hj : j < 32)
    (hblk : w.heap[b]? = some (.cells arr 125 (0, 0))) (hs : arr.size = 33) (hc0 : arr[0]? = some (.int .u64 ((d + 1 : Nat) : Int))) (t fid : Nat) (hk : Kids arr t)
    (h0 : Disp t fid "pub-frond/pub/immutable.deleteAfter")
    (hcb : Calls Try.prog 97 #[.pointer (some ⟨b, 0, none⟩), .int .i64 i] w (SomeB w))
    (hcall : ∀ p W, arr[1 + j]? = some (.iface t (.pointer (some ⟨p, 0, none⟩))) → But (· = b) w W → Calls Try.prog fid #[.pointer (some ⟨p, 0, none⟩), .int .i64 i, .bool true] W (fun e w'' => ∃ q, e = .returned (.iface t (.pointer (some ⟨q, 0, none⟩))) ∧ R W q w'' ∧ w''.heap[b]? = W.heap[b]?)) :
    Calls Try.prog 99 #[.pointer (some ⟨b, 0, none⟩), .int .i64 i, .bool true] w (BranchDelM w b j t (1 + (j + 1)) 33 arr R) := by
  have hcell0 := cell_at hblk hc0
  obtain ⟨h1, h2, h3⟩ := h0
  have H4 := Lib.hid hcall; clear hcall
  have H5 := Lib.hid hcb; clear hcb
  have HKD := Lib.hid hk; clear hk
  have HBK := Lib.hid hblk
  have HSZ := Lib.hid hs
  clear hs hblk
  go_enter Try.func99, Try.ntmps99
  go_wp2_with fail
  refine H5.out.mono ?_
  rintro e w' ⟨m, rfl, rfl⟩
  cases m
  · go_wp2
    go_ret
    exact ⟨rfl, .inl rfl⟩
  · have HC0 := Lib.hid hc0
    have hw0 : IntKind.i64.wrap ((j : Int) + 1) = ((j + 1 : Nat) : Int) := by rw [IntKind.wrap_i64]; omega
    go_wp2_with fail
    go_loopg [9] (32 - (j + 1)) (fun q v9 wr => ∃ m : Nat, m + q = 32 ∧ j + 1 ≤ m ∧ v9 = .int .i64 (m : Int) ∧ But (· = b) w wr ∧ ∃ arr' : Array Value, Zed arr arr' ((1 + (j + 1))) (1 + m) .nilIface ∧ wr.heap[b]? = some (.cells arr' 125 (0, 0)))
    case atStart => exact ⟨j + 1, by omega, by omega, rfl, But.refl _ _, arr, Zed.nil _ _ _, HBK.out⟩
    case round =>
      clear hcell0 hc0
      obtain ⟨m, hmq, hml, rfl, hbut, arr', hz, hblk⟩ := hrel
      have HB := Lib.hid hbut
      have HZ := Lib.hid hz
      have HK := Lib.hid hblk
      clear hbut hz hblk
      by_cases hlt : m < 32
      · have hd1 : decide ((m : Int) < 32) = true := by simp; omega
        have hm32 : m < 32 := by omega
        obtain ⟨y, hy⟩ := HZ.out.at (k := 1 + m) (by rw [HSZ.out]; omega)
        have cm := cell_at HK.out hy
        have fm : wr.frozen? ⟨b, 1 + m, none⟩ = false := frozen_of_row _ _ _ _ _ HK.out
        have hw1 : IntKind.i64.wrap ((m : Int) + 1) = ((m + 1 : Nat) : Int) := by rw [IntKind.wrap_i64]; omega
        clear hy
        go_upto_region 9 with (fail)
        have hX := HB.out.setCell (p := ⟨b, 1 + m, none⟩) (.inl rfl) .nilIface
        have hXs := heap_setCell_same wr b (1 + m) _ 125 .nilIface HK.out
        clear cm fm
        generalize wr.setCell ⟨b, 1 + m, none⟩ .nilIface = X at hX hXs ⊢
        have HX := Lib.hid (And.intro hX hXs)
        clear hX hXs
        go_wp2_with fail
        go_roundg (gk - 1)
        case measure => omega
        case rel => exact ⟨m + 1, by omega, by omega, rfl, HX.out.1, _, HZ.out.step (by omega) (by rw [HSZ.out]; omega), HX.out.2⟩
      · have hd1 : decide ((m : Int) < 32) = false := by simp; omega
        obtain rfl : 32 = m := by omega
        have hget : arr'[1 + j]? = arr[1 + j]? := by rw [HZ.out.2 (1 + j), if_neg (by omega)]
        rcases HKD.out j hj with hc | ⟨p, hc⟩
        · have hcj := cell_at HK.out (hget.trans hc)
          clear hget
          go_wp2
          go_ret
          exact ⟨rfl, .inr ⟨wr, arr', HB.out, HK.out, HZ.out, .inl ⟨hc, rfl⟩⟩⟩
        · have hcj := cell_at HK.out (hget.trans hc)
          have HCJ := Lib.hid (hget.trans hc)
          have HPJ := Lib.hid hc
          have H6 := Lib.hid (H4.out p wr.drew hc HB.out.drew)
          clear hget hc
          go_wp2
          go_region_with (first | ((with_reducible refine H6.out.mono ?_); rintro e w' ⟨q, rfl, hr, hh⟩; have hz' : w'.heap[b]? = some (.cells arr' 125 (0, 0)) := hh.trans HK.out; have hc' := cell_at hz' HCJ.out; have hf' : w'.frozen? ⟨b, 1 + j, none⟩ = false := frozen_of_row _ _ _ _ _ hz'; have HR := Lib.hid (And.intro hr hh); clear hr hh hz'))
          go_wp2
          go_ret
          exact ⟨rfl, .inr ⟨wr.drew, arr', HB.out.drew, HK.out, HZ.out, .inr ⟨p, q, w', HPJ.out, HR.out.1, HR.out.2, rfl⟩⟩⟩

theorem Glob.but_node {w W : World} {p : Nat} {arr : Array Value} (hg : Glob w) (h2 : w.heap[p]? = some (.cells arr 125 (0, 0))) (hW : But (· = p) w W) : Glob W := by
  obtain ⟨cs, h1, h3⟩ := hg
  refine ⟨cs, hW.at h1 (fun e => ?_), h3⟩
  have e' : 0 = p := e
  subst e'
  rw [h1] at h2
  simp only [Option.some.injEq, Obj.cells.injEq] at h2
  exact absurd h2.2.1 (by decide)

/-- a branch behind a delete in place, in words of nodes -/
theorem BranchDelM.node {S : Nat → Prop} {w : World} {p s d lo hi : Nat} {arr : Array Value} {T : Nat → Nat → Prop} {f g : Nat → Option Int} {e : Ending} {w' : World} (hs : s < 32)
    (h2 : w.heap[p]? = some (.cells arr 125 (0, 0))) (h3 : arr.size = 33) (h4 : arr[0]? = some (.int .u64 ((d + 1 : Nat) : Int)))
    (h5 : ∀ k, k < 32 → ∃ c, arr[1 + k]? = some c ∧ ((c = .nilIface ∧ ∀ j, j < 32 ^ (d + 1) → f (k * 32 ^ (d + 1) + j) = none) ∨ SNode w d (T k) c (fun j => f (k * 32 ^ (d + 1) + j))))
    (h6 : S p) (h7 : ∀ k x, T k x → S x ∧ x ≠ p) (h8 : ∀ k k' x, k ≠ k' → T k x → ¬ T k' x)
    (hg : ∀ j y, g j = some y → f j = some y) (hlo : 1 ≤ lo) (hout : ∀ k l, k < 32 → (lo ≤ 1 + k ∧ 1 + k < hi) → l < 32 ^ (d + 1) → g (k * 32 ^ (d + 1) + l) = none)
    (hsame : ∀ k l, k < 32 → k ≠ s → ¬ (lo ≤ 1 + k ∧ 1 + k < hi) → l < 32 ^ (d + 1) → g (k * 32 ^ (d + 1) + l) = f (k * 32 ^ (d + 1) + l)) (hsin : ¬ (lo ≤ 1 + s ∧ 1 + s < hi))
    (R : World → Nat → World → Prop)
    (hR : ∀ W q V, But (· = p) w W → R W q V → But (fun x => T s x ∨ W.heap.size ≤ x) W V ∧ SNode V d (fun x => (T s x ∧ x < W.heap.size) ∨ W.heap.size ≤ x) (.iface (ty d) (.pointer (some ⟨q, 0, none⟩))) (fun j => g (s * 32 ^ (d + 1) + j)))
    (h : BranchDelM w p s (ty d) lo hi arr R e w') : MutPost S w (d + 1) p g e w' := by
  obtain ⟨rfl, h | ⟨W, arr', hW, hb, hz, h⟩⟩ := h
  · subst h
    refine ⟨rfl, SNode.mono _ _ _ _ _ (SNode.inS (d := d + 1) (S := S) (S' := New S w') (f := f) ⟨p, arr, T, rfl, h2, h3, h4, h5, h6, h7, h8⟩ fun b h _ => .inl h) fun j y _ hy => hg j y hy, But.refl _ _⟩
  · have hsz : arr'.size = 33 := by rw [hz.1, h3]
    have h0 : arr'[0]? = some (.int .u64 ((d + 1 : Nat) : Int)) := by rw [hz.2 0, if_neg (by omega)]; exact h4
    have hkids : ∀ k, k < 32 → k ≠ s → ∃ c, arr'[1 + k]? = some c ∧ ((c = .nilIface ∧ ∀ j, j < 32 ^ (d + 1) → g (k * 32 ^ (d + 1) + j) = none) ∨ SNode W d (T k) c (fun j => g (k * 32 ^ (d + 1) + j))) := fun k hk hks => by
      rw [hz.2 (1 + k)]
      by_cases hin : lo ≤ 1 + k ∧ 1 + k < hi
      · rw [if_pos hin]
        exact ⟨_, rfl, .inl ⟨rfl, fun l hl => hout k l hk hin hl⟩⟩
      · rw [if_neg hin]
        obtain ⟨c, hc, h9⟩ := h5 k hk
        refine ⟨c, hc, ?_⟩
        rcases h9 with ⟨h9, h10⟩ | h9
        · exact .inl ⟨h9, fun l hl => (hsame k l hk hks hin hl).trans (h10 l hl)⟩
        · exact .inr (SNode.mono _ _ _ _ _ (h9.but hW fun x hx he => (h7 k x hx).2 he) fun l y hl hy => (hsame k l hk hks hin hl) ▸ hy)
    have hss : arr'[1 + s]? = arr[1 + s]? := by rw [hz.2 (1 + s), if_neg hsin]
    have wide : ∀ {e : Ending} {w' : World}, MutPost S W (d + 1) p g e w' → MutPost S w (d + 1) p g e w' := fun ⟨a, b, c⟩ =>
      ⟨a, b.inS fun x h _ => h.elim .inl fun h => .inr (Nat.le_trans hW.size h), (hW.wider fun k _ h => by rw [h]; exact h6).trans c⟩
    refine wide ?_
    rcases h with ⟨hn, rfl⟩ | ⟨p', q, V, hn, hr, hv, rfl⟩
    · refine ⟨rfl, SNode.inS (d := d + 1) (S := S) (f := g) ⟨p, arr', T, rfl, hb, hsz, h0, fun k hk => ?_, h6, h7, h8⟩ fun b h _ => .inl h, But.refl _ _⟩
      by_cases e : k = s
      · subst e
        obtain ⟨c, hc, h9⟩ := h5 k hk
        have hcn : c = .nilIface := by rw [hn] at hc; cases hc; rfl
        refine ⟨c, by rw [hss]; exact hc, ?_⟩
        rcases h9 with ⟨h9, h10⟩ | h9
        · refine .inl ⟨h9, fun l hl => ?_⟩
          cases hv : g (k * 32 ^ (d + 1) + l) with
          | none => rfl
          | some y => have := hg _ _ hv; rw [h10 l hl] at this; cases this
        · obtain ⟨q, hq⟩ := h9.ptr
          rw [hcn] at hq
          cases hq
      · exact hkids k hk e
    · obtain ⟨r1, r2⟩ := hR W q V hW hr
      obtain ⟨c, hc, h9⟩ := h5 s hs
      let f2 : Nat → Option Int := fun x => if x / 32 ^ (d + 1) = s then f x else g x
      have hdiv : ∀ k l, l < 32 ^ (d + 1) → (k * 32 ^ (d + 1) + l) / 32 ^ (d + 1) = k := fun k l hl => by
        rw [Nat.mul_comm, Nat.mul_add_div (pos32 (d + 1)), Nat.div_eq_of_lt hl, Nat.add_zero]
      have ef : ∀ l, l < 32 ^ (d + 1) → f2 (s * 32 ^ (d + 1) + l) = f (s * 32 ^ (d + 1) + l) := fun l hl => by simp only [f2]; rw [if_pos (hdiv s l hl)]
      have eg : ∀ k l, k ≠ s → l < 32 ^ (d + 1) → f2 (k * 32 ^ (d + 1) + l) = g (k * 32 ^ (d + 1) + l) := fun k l hk hl => by simp only [f2]; rw [if_neg (by rw [hdiv k l hl]; exact hk)]
      refine branch_mut_end (f := f2) hs hb hsz h0 (fun k hk => ?_) h6 h7 h8 r1 r2 (fun k l hk hl => (eg k l hk hl).symm)
      by_cases e : k = s
      · subst e
        refine ⟨c, by rw [hss]; exact hc, ?_⟩
        rcases h9 with ⟨h9, h10⟩ | h9
        · exact .inl ⟨h9, fun l hl => (ef l hl).trans (h10 l hl)⟩
        · exact .inr (SNode.mono _ _ _ _ _ (h9.but hW fun x hx he => (h7 k x hx).2 he) fun l y hl hy => (ef l hl) ▸ hy)
      · obtain ⟨c', hc', h9'⟩ := hkids k hk e
        refine ⟨c', hc', ?_⟩
        rcases h9' with ⟨a, b⟩ | a
        · exact .inl ⟨a, fun l hl => (eg k l e hl).trans (b l hl)⟩
        · exact .inr (SNode.mono _ _ _ _ _ a fun l y hl hy => (eg k l e hl) ▸ hy)

theorem skids {w : World} {d : Nat} {arr : Array Value} {T : Nat → Nat → Prop} {f : Nat → Option Int}
    (h5 : ∀ k, k < 32 → ∃ c, arr[1 + k]? = some c ∧ ((c = .nilIface ∧ ∀ j, j < 32 ^ (d + 1) → f (k * 32 ^ (d + 1) + j) = none) ∨ SNode w d (T k) c (fun j => f (k * 32 ^ (d + 1) + j)))) : Kids arr (ty d) := fun k hk => by
  obtain ⟨c, hc, h⟩ := h5 k hk
  rcases h with ⟨rfl, _⟩ | h
  · exact .inl hc
  · obtain ⟨p, rfl⟩ := h.ptr; exact .inr ⟨p, hc⟩
theorem skid_at {w : World} {d k q : Nat} {arr : Array Value} {T : Nat → Nat → Prop} {f : Nat → Option Int}
    (h5 : ∀ k, k < 32 → ∃ c, arr[1 + k]? = some c ∧ ((c = .nilIface ∧ ∀ j, j < 32 ^ (d + 1) → f (k * 32 ^ (d + 1) + j) = none) ∨ SNode w d (T k) c (fun j => f (k * 32 ^ (d + 1) + j)))) (hk : k < 32)
    (hq : arr[1 + k]? = some (.iface (ty d) (.pointer (some ⟨q, 0, none⟩)))) : SNode w d (T k) (.iface (ty d) (.pointer (some ⟨q, 0, none⟩))) (fun j => f (k * 32 ^ (d + 1) + j)) := by
  obtain ⟨c, hc, h⟩ := h5 k hk
  rw [hq] at hc
  cases hc
  rcases h with ⟨h, _⟩ | h
  · cases h
  · exact h

theorem dbm_any (i : Int) : ∀ (d : Nat) (S : Nat → Prop) (w : World) (p : Nat) (f : Nat → Option Int), Glob w → d < 12 → SNode w d S (.iface (ty d) (.pointer (some ⟨p, 0, none⟩))) f →
    Calls Try.prog (fn 90 100 d) #[.pointer (some ⟨p, 0, none⟩), .int .i64 i, .bool true] w (MutPost S w d p (before i d f))
  | 0, S, w, p, f, hg, _, h => leaf_dbm i hg h
  | d + 1, S, w, p, f, hg, hd, hN => by
    have hcb := cb_any hg i (d + 1) p f hd hN.node
    obtain ⟨b, arr, T, h1, h2, h3, h4, h5, h6, h7, h8⟩ := hN
    simp only [Value.iface.injEq, Value.pointer.injEq, Option.some.injEq, Addr.mk.injEq, and_true] at h1
    obtain ⟨_, h1⟩ := h1
    subst h1
    have hlt := slot_lt i (d + 1)
    have hp : p < w.heap.size := lt_of_block h2
    refine (branch_dbm_w p arr i (slot i (d + 1)) d w
      (fun W q V => But (fun x => T (slot i (d + 1)) x ∨ W.heap.size ≤ x) W V ∧ SNode V d (fun x => (T (slot i (d + 1)) x ∧ x < W.heap.size) ∨ W.heap.size ≤ x) (.iface (ty d) (.pointer (some ⟨q, 0, none⟩))) (before i d (fun j => f (slot i (d + 1) * 32 ^ (d + 1) + j))))
      hd (slot_eq i (d + 1)) hlt h2 h3 h4 (ty d) (fn 90 100 d) (skids h5) (disp_ty disp_deleteBefore0 disp_deleteBefore1 d) hcb (fun q W hq hW => ?_)).mono fun e w' h => ?_
    · have hsn := (skid_at h5 hlt hq).but hW fun x hx he => (h7 _ x hx).2 he
      refine (dbm_any i d (fun x => T (slot i (d + 1)) x ∧ x < W.heap.size) W q _ ?_ (by omega) (hsn.inS fun b h1 h2 => ⟨h1, h2⟩)).mono ?_
      · exact hg.but_node h2 hW
      · rintro e w'' ⟨rfl, hq, hb⟩
        refine ⟨q, rfl, ⟨hb.wider fun _ _ h => .inl h.1, hq⟩, ?_⟩
        exact hb.block p (Nat.lt_of_lt_of_le hp hW.size) (fun h => (h7 _ _ h.1).2 rfl)
    · refine h.node hlt h2 h3 h4 h5 h6 h7 h8 (fun k y hy => ?_) (by omega) (fun k l hk hin hl => ?_) (fun k l hk hks hin hl => ?_) (by omega) _ (fun W q V hW hr => ⟨hr.1, ?_⟩)
      · unfold before at hy; split at hy
        · exact hy
        · cases hy
      · unfold before
        rw [if_neg]
        rw [loc_succ]
        have := mul_mono_lt (r := loc i d) (show k < slot i (d + 1) by omega) hl
        omega
      · unfold before
        rw [if_pos]
        rw [loc_succ]
        have := mul_mono_lt (r := l) (show slot i (d + 1) < k by omega) (loc_lt i d)
        omega
      · refine SNode.mono _ _ _ _ _ hr.2 fun l y hl hy => ?_
        unfold before at hy ⊢
        rw [loc_succ] at hy
        split at hy
        · rw [if_pos (by omega)]; exact hy
        · cases hy

theorem dam_any (i : Int) : ∀ (d : Nat) (S : Nat → Prop) (w : World) (p : Nat) (f : Nat → Option Int), Glob w → d < 12 → SNode w d S (.iface (ty d) (.pointer (some ⟨p, 0, none⟩))) f →
    Calls Try.prog (fn 89 99 d) #[.pointer (some ⟨p, 0, none⟩), .int .i64 i, .bool true] w (MutPost S w d p (behind i d f))
  | 0, S, w, p, f, hg, _, h => leaf_dam i h
  | d + 1, S, w, p, f, hg, hd, hN => by
    have hcb := ca_any i (d + 1) p f hd hN.node
    obtain ⟨b, arr, T, h1, h2, h3, h4, h5, h6, h7, h8⟩ := hN
    simp only [Value.iface.injEq, Value.pointer.injEq, Option.some.injEq, Addr.mk.injEq, and_true] at h1
    obtain ⟨_, h1⟩ := h1
    subst h1
    have hlt := slot_lt i (d + 1)
    have hp : p < w.heap.size := lt_of_block h2
    refine (branch_dam_w p arr i (slot i (d + 1)) d w
      (fun W q V => But (fun x => T (slot i (d + 1)) x ∨ W.heap.size ≤ x) W V ∧ SNode V d (fun x => (T (slot i (d + 1)) x ∧ x < W.heap.size) ∨ W.heap.size ≤ x) (.iface (ty d) (.pointer (some ⟨q, 0, none⟩))) (behind i d (fun j => f (slot i (d + 1) * 32 ^ (d + 1) + j))))
      hd (slot_eq i (d + 1)) hlt h2 h3 h4 (ty d) (fn 89 99 d) (skids h5) (disp_ty disp_deleteAfter0 disp_deleteAfter1 d) hcb (fun q W hq hW => ?_)).mono fun e w' h => ?_
    · have hsn := (skid_at h5 hlt hq).but hW fun x hx he => (h7 _ x hx).2 he
      refine (dam_any i d (fun x => T (slot i (d + 1)) x ∧ x < W.heap.size) W q _ ?_ (by omega) (hsn.inS fun b h1 h2 => ⟨h1, h2⟩)).mono ?_
      · exact hg.but_node h2 hW
      · rintro e w'' ⟨rfl, hq, hb⟩
        refine ⟨q, rfl, ⟨hb.wider fun _ _ h => .inl h.1, hq⟩, ?_⟩
        exact hb.block p (Nat.lt_of_lt_of_le hp hW.size) (fun h => (h7 _ _ h.1).2 rfl)
    · refine h.node hlt h2 h3 h4 h5 h6 h7 h8 (fun k y hy => ?_) (by omega) (fun k l hk hin hl => ?_) (fun k l hk hks hin hl => ?_) (by omega) _ (fun W q V hW hr => ⟨hr.1, ?_⟩)
      · unfold behind at hy; split at hy
        · exact hy
        · cases hy
      · unfold behind
        rw [if_neg]
        rw [loc_succ]
        have := mul_mono_lt (r := l) (show slot i (d + 1) < k by omega) (loc_lt i d)
        omega
      · unfold behind
        rw [if_pos]
        rw [loc_succ]
        have := mul_mono_lt (r := loc i d) (show k < slot i (d + 1) by omega) hl
        omega
      · refine SNode.mono _ _ _ _ _ hr.2 fun l y hl hy => ?_
        unfold behind at hy ⊢
        rw [loc_succ] at hy
        split at hy
        · rw [if_pos (by omega)]; exact hy
        · cases hy

end Go.Proofs.Ytnahipfdnadccaa

