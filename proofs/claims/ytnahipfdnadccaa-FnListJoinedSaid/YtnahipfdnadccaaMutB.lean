/- NewList of one value. Conditions of this file: none. -/
import Derived.Test.YtnahipfdnadccaaMutA
namespace Go.Proofs.Ytnahipfdnadccaa
open Go.RowKit

/-- the one value's list, behind the append in place -/
def One (w : World) (x : Int) (w' : World) : Prop := IsList w' (.pointer (some ⟨w.heap.size + 1, 0, none⟩)) 1 [x] ∧ Below w.heap.size w w'

theorem append_one (w : World) (x : Int) : Calls Try.prog 66 #[.pointer (some ⟨w.heap.size + 1, 0, none⟩), .int .i64 x, .bool true] (fresh w) fun e w' => (∃ v, e = .returned v) ∧ One w x w' := by
  have hp := fresh_leaf w
  have hne : w.heap.size ≠ w.heap.size + 1 := by omega
  refine (append_mut_w (w.heap.size + 1) w.heap.size 93 111 0 0 1 x (fresh w) (fun w' q w'' => q = w.heap.size ∧ But (· = w.heap.size) w' w'' ∧ ∃ (arr : Array Value) (occ : Int), w''.heap[w.heap.size]? = some (.cells arr 110 (0, 0)) ∧ arr.size = 33 ∧
      arr[32]? = some (.int .u32 occ) ∧ 0 ≤ occ ∧ occ < 4294967296 ∧ arr[0]? = some (.int .i64 x) ∧ ∀ k, k < 32 → ∃ y, arr[k]? = some (.int .i64 y)) (by omega) (by omega) (fresh_head w) (fun w' hb hh => ?_) disp_set0 (fun w' hb => ?_)).mono ?_
  · have hl : w'.heap[w.heap.size]? = some (.cells (zleaf 0).toArray 110 (0, 0)) := hb.at hp hne
    refine (cap_any (n := 0) (d := 0) (o := 0) (xs := []) ⟨w.heap.size, hh, ⟨w.heap.size, (zleaf 0).toArray, 0, rfl, hl, by simp [zleaf_len], by simpa using zleaf_last 0, by omega, by omega, fun k hk => ⟨0, by simpa using zleaf_get 0 k hk, fun y hy => by simp [win] at hy⟩, trivial⟩, by simp [Dep]⟩).mono ?_
    rintro e w'' ⟨rfl, rfl⟩
    exact ⟨rfl, rfl⟩
  · have hl : w'.heap[w.heap.size]? = some (.cells (zleaf 0).toArray 110 (0, 0)) := hb.at hp hne
    refine (leaf_mut_w w.heap.size (zleaf 0).toArray 0 (((0 : Nat) : Int) + ((0 : Nat) : Int)) x 0 0 w' (by decide) (by omega) hl (by simpa using zleaf_last 0) (by simpa using zleaf_get 0 0 (by omega))).mono ?_
    rintro e w'' ⟨rfl, rfl⟩
    have hr := u32_or 0 (2 ^ 0 % 4294967296)
    have h1 := heap_setCell_same w' w.heap.size 0 _ 110 (.int .i64 x) hl
    have h2 := heap_setCell_same _ w.heap.size 32 _ 110 (.int .u32 (bits BinOp.or IntKind.u32 0 (2 ^ 0 % 4294967296))) h1
    refine ⟨w.heap.size, rfl, ⟨rfl, (((But.refl (· = w.heap.size) w').setCell (p := ⟨w.heap.size, 0, none⟩) (.inl rfl) _).setCell (p := ⟨w.heap.size, 32, none⟩) (.inl rfl) _).drew, _, _, h2, by simp [zleaf_len], ?_, hr.1, hr.2, ?_, ?_⟩, ?_⟩
    · rw [Array.getElem?_setIfInBounds_self_of_lt (by simp [zleaf_len])]
    · rw [Array.getElem?_setIfInBounds_ne (by omega), Array.getElem?_setIfInBounds_self_of_lt (by simp [zleaf_len])]
    · intro k hk
      rw [Array.getElem?_setIfInBounds_ne (by omega)]
      by_cases e : k = 0
      · subst e
        exact ⟨x, by rw [Array.getElem?_setIfInBounds_self_of_lt (by simp [zleaf_len])]⟩
      · rw [Array.getElem?_setIfInBounds_ne (fun h => e h.symm)]
        exact ⟨0, by simpa using zleaf_get 0 k hk⟩
    · show (((w'.setCell _ _).setCell _ _).drew).heap[_]? = _
      rw [heap_drew, heap_setCell_other _ _ _ _ (by show w.heap.size + 1 ≠ w.heap.size; omega), heap_setCell_other _ _ _ _ (by show w.heap.size + 1 ≠ w.heap.size; omega)]
  · rintro e w' ⟨rfl, q, W, V, hW, ⟨rfl, hV, arr, occ, a1, a2, a3, a4, a5, a6, a7⟩, hh, rfl⟩
    have hfin := heap_setCell_same V (w.heap.size + 1) 0 _ 113 (.iface 111 (.pointer (some ⟨w.heap.size, 0, none⟩))) hh
    have hleaf : (V.setCell ⟨w.heap.size + 1, 0, none⟩ (.iface 111 (.pointer (some ⟨w.heap.size, 0, none⟩)))).heap[w.heap.size]? = some (.cells arr 110 (0, 0)) := by
      rw [heap_setCell_other _ _ _ _ (by show w.heap.size ≠ w.heap.size + 1; omega)]; exact a1
    refine ⟨⟨_, rfl⟩, ⟨w.heap.size + 1, 0, 0, rfl, w.heap.size, hfin, ⟨w.heap.size, arr, occ, rfl, hleaf, a2, a3, a4, a5, fun k hk => ?_, trivial⟩, by simp [Dep]⟩, ?_⟩
    · by_cases e : k = 0
      · subst e
        exact ⟨x, a6, fun y hy => by simp [win] at hy; exact hy.symm⟩
      · obtain ⟨y, hy⟩ := a7 k hk
        refine ⟨y, hy, fun z hz => ?_⟩
        simp only [win, Nat.zero_le, if_true, Nat.sub_zero] at hz
        rw [List.getElem?_eq_none (by simp; omega)] at hz
        cases hz
    · have h1 : But (fun k => w.heap.size ≤ k) w (fresh w) := (But.of_below (fresh_below w))
      have h2 : But (fun k => w.heap.size ≤ k) (fresh w) W := hW.wider fun k _ hk => by subst hk; omega
      have h3 : But (fun k => w.heap.size ≤ k) W V := hV.wider fun k _ hk => by subst hk; exact Nat.le_refl _
      exact (((h1.trans h2).trans h3).setCell (p := ⟨w.heap.size + 1, 0, none⟩) (.inl (by show w.heap.size ≤ w.heap.size + 1; omega)) _).below (Nat.le_refl _) (fun _ h => h)

set_option maxRecDepth 100000 in
set_option maxHeartbeats 800000 in
theorem new1 (g o cap : Nat) (x : Int) (w : World) (hc : w.cell? ⟨g, o, none⟩ = some (.int .i64 x)) : Calls Try.prog 55 #[.slice (some ⟨g, o, none⟩) 1 cap] w (ListPost w 1 [x]) := by
  have hc' : (fresh w).cell? ⟨g, o, none⟩ = some (.int .i64 x) := ((fresh_below w).cell (World.block_lt_of_cell? w _ hc)).trans hc
  have HA := Lib.hid (append_one w x)
  go_enter Try.func55, Try.ntmps55
  go_wp2_with fail
  change Code.wp _ _ _ _ (fresh w)
  go_loopg [5, 13] 1 (fun k v5 v wr => (k = 1 ∧ v = .int .i64 0 ∧ wr = fresh w) ∨ (k = 0 ∧ v = .int .i64 1 ∧ One w x wr))
  case atStart => exact .inl ⟨rfl, rfl, rfl⟩
  case round =>
    rcases hrel with ⟨rfl, rfl, rfl⟩ | ⟨rfl, rfl, h⟩
    · generalize hF : fresh w = F at *
      go_wp2_with fail
      refine HA.out.mono ?_
      rintro e w' ⟨⟨v, rfl⟩, h⟩
      have HO := Lib.hid h
      clear h
      go_wp2_with fail
      go_roundg 0
      case measure => omega
      case rel => exact .inr ⟨rfl, rfl, HO.out⟩
    · have HO := Lib.hid h
      clear h
      go_wp2_with fail
      go_ret
      exact ⟨_, rfl, HO.out.1, HO.out.2⟩

end Go.Proofs.Ytnahipfdnadccaa
