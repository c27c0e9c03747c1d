/- got: the values of a list. Conditions of this file: none.

NewList of nothing. Conditions of this file: none. -/
import Derived.Test.YtnahipfdnadccaaBut
import Derived.Test.YtnahipfdnadccaaListG
import Derived.Deep.LoopGhost
import Derived.OwnWalk
namespace Go.Proofs.Ytnahipfdnadccaa
open Go.RowKit

theorem info2 : (Try.prog.info? 2).map (fun i => (i.zero, i.size, i.bytes)) = some (some (.int .i64 0), 1, 8) := by kernel_rfl

theorem grown_stay {w w' : World} {base size n : Nat} {e : TypeId} {v : Value} {xs : List Value} (ho : w.ownsRow base e size v n xs) (hg : w.grownBy w' v.ownBlock) (he : ¬ (e = 110 ∨ e = 125 ∨ e = 113 ∨ e = 144)) : Stay w w' := fun b c t h1 h2 => by
  rw [hg.block b (lt_of_block h1) ?_]
  · exact h1
  · intro hb
    rcases ho.2 with ⟨rfl, _⟩ | ⟨g, cap, cur, rfl, _, hgg, _⟩
    · cases hb
    · simp only [Value.ownBlock, Option.some.injEq] at hb
      subst hb
      rw [hgg] at h1
      simp only [Option.some.injEq, Obj.cells.injEq] at h1
      obtain ⟨_, rfl, _⟩ := h1
      exact he h2

theorem new_cell (w : World) (x : Value) (t : TypeId) : ∀ (j : Nat) (u : Value), [x][j]? = some u → (w.alloc (.cells #[x] t)).cell? ((⟨w.heap.size, 0, none⟩ : Addr).add j) = some u := by
  intro j u h
  cases j with
  | zero =>
    simp only [List.getElem?_cons_zero, Option.some.injEq] at h
    subst h
    exact cell_at (heap_alloc_last w _) rfl
  | succ j => simp at h
theorem new_cell_drew (w : World) (x : Value) (t : TypeId) : ∀ (j : Nat) (u : Value), [x][j]? = some u → (w.alloc (.cells #[x] t)).drew.cell? ((⟨w.heap.size, 0, none⟩ : Addr).add j) = some u := new_cell w x t
theorem one_oneCell {x : Value} (h : x.oneCell' = true) : ∀ u ∈ [x], u.oneCell' = true := by
  intro u hu
  simp only [List.mem_singleton] at hu
  subst hu
  exact h

theorem below_append {B base size n : Nat} {w0 wr w1 : World} {e : TypeId} {v : Value} {xs : List Value} {O : Obj} (hb : Below B w0 wr) (ho : wr.ownsRow base e size v n xs) (hBb : B ≤ base) (hBh : B ≤ w0.heap.size)
    (hg : (wr.alloc O).drew.grownBy w1 v.ownBlock) : Below B w0 w1 := by
  have hB' : B ≤ wr.heap.size := Nat.le_trans hBh hb.size
  refine Below.grown (w := (wr.alloc O).drew) (hb.alloc hB' O).drew hg (by simp; omega) fun k hk => ?_
  have := (ho.lt k hk).1
  omega

set_option maxRecDepth 100000 in
set_option maxHeartbeats 1600000 in
theorem got_any {w : World} {v : Value} {n : Nat} {xs : List Int} (h : IsList w v n xs) (hn : n < 33554432) :
    Calls Try.prog 30 #[v] w fun e w' => ∃ u, e = .returned u ∧ w'.ownsRow w.heap.size 2 1 u xs.length (xs.map (Value.int .i64)) ∧ Below w.heap.size w w' ∧ (xs = [] → u = .slice none 0 0) := by
  have hlen : xs.length ≤ n := by obtain ⟨_, _, _, _, _, _, _, h⟩ := h; exact h.1
  obtain ⟨i0, hi, hz0, hz1, hz2⟩ := info_parts info2
  have HI := Lib.hid (And.intro hi (And.intro hz0 (And.intro hz1 hz2)))
  clear hi hz0 hz1 hz2
  have HL := Lib.hid h
  obtain ⟨b', d', o', rfl, _⟩ := h
  go_enter Try.func30, Try.ntmps30
  go_wp2_with fail
  go_loopg [3, 4] xs.length (fun k v i wr => ∃ j : Nat, j + k = xs.length ∧ i = .int .i64 (j : Int) ∧ wr.ownsRow w.heap.size 2 1 v j ((xs.take j).map (Value.int .i64)) ∧ Below w.heap.size w wr ∧ (j = 0 → v = .slice none 0 0))
  case atStart => exact ⟨0, by omega, rfl, World.ownsRow_nil _ _ _ _, Below.refl _ _, fun _ => rfl⟩
  case round =>
    obtain ⟨j, hjk, rfl, hown, hb, hnil⟩ := hrel
    have HR := Lib.hid (HL.out.stay (Stay.of_below hb))
    have HB := Lib.hid hb
    have HO := Lib.hid hown
    have HN := Lib.hid hnil
    clear hb hown hnil
    have hw1 : IntKind.i64.wrap ((j : Int) + 1) = (j : Int) + 1 := by rw [IntKind.wrap_i64]; omega
    by_cases hlt : j < xs.length
    · have h1 : decide ((j : Int) < (xs.length : Int)) = true := by simp; omega
      go_wp2_with (go_at_call 61; refine (len_any HR.out).mono ?_; rintro e w' ⟨rfl, rfl⟩)
      go_wp2_with (first | (go_at_call 62; refine (get_list HR.out hlt).mono ?_; rintro e w' ⟨rfl, rfl⟩) | (at_builtin; refine wpList_append_own _ rfl (.tmp 11) (.tmp 15) 32 rfl w.heap.size 2 i0 (.int .i64 0) 1 8 Try.underlying32 HI.out.1 HI.out.2.1 HI.out.2.2.1 HI.out.2.2.2 rfl (by decide) _ _ _ rfl (HO.out.alloc _).drew ⟨wr.heap.size, 0, none⟩ 1 1 [.int .i64 xs[j]] rfl rfl (new_cell_drew _ _ _) (one_oneCell rfl) (by unfold maxLen; omega) (by omega) (by have := HB.out.size; simp; omega) ?_))
      intro v' w1 hown' hgrow hnil'
      have HB' := Lib.hid (below_append (O := .cells #[Value.int IntKind.i64 xs[j]] 2) HB.out HO.out (Nat.le_refl _) (Nat.le_refl _) hgrow)
      have HO' := Lib.hid hown'
      clear hown' hgrow hnil' HR HB HO HN
      go_wp2_with fail
      go_roundg (gk - 1)
      case measure => omega
      case rel =>
        refine ⟨j + 1, by omega, rfl, ?_, HB'.out, fun h => by omega⟩
        have := HO'.out
        rw [List.take_add_one, List.getElem?_eq_getElem hlt, List.map_append]
        simpa using this
    · have h1 : decide ((j : Int) < (xs.length : Int)) = false := by simp; omega
      obtain rfl : j = xs.length := by omega
      go_wp2_with (go_at_call 61; refine (len_any HR.out).mono ?_; rintro e w' ⟨rfl, rfl⟩)
      go_ret
      refine ⟨_, rfl, ?_, HB.out, fun e => HN.out (by rw [e]; rfl)⟩
      have := HO.out
      rwa [List.take_length] at this

end Go.Proofs.Ytnahipfdnadccaa

namespace Go.Proofs.Ytnahipfdnadccaa
open Go.RowKit

/-- the world behind a new list that is empty -/
def fresh (w : World) : World := (w.alloc (.cells (zleaf 0).toArray 110)).alloc (.cells #[.iface 111 (.pointer (some ⟨w.heap.size, 0, none⟩)), .int .i64 0, .int .i64 0] 113)

theorem fresh_head (w : World) : (fresh w).heap[w.heap.size + 1]? = some (.cells #[.iface 111 (.pointer (some ⟨w.heap.size, 0, none⟩)), .int .i64 0, .int .i64 0] 113 (0, 0)) := by
  have := heap_alloc_last (w.alloc (.cells (zleaf 0).toArray 110)) (.cells #[.iface 111 (.pointer (some ⟨w.heap.size, 0, none⟩)), .int .i64 0, .int .i64 0] 113)
  simpa [fresh] using this
theorem fresh_leaf (w : World) : (fresh w).heap[w.heap.size]? = some (.cells (zleaf 0).toArray 110 (0, 0)) := by
  have h := heap_alloc_last w (.cells (zleaf 0).toArray 110)
  unfold fresh
  rw [Below.heap_alloc _ _ _ (by simp)]
  exact h
theorem fresh_below (w : World) : Below w.heap.size w (fresh w) := ((Below.refl _ _).alloc (Nat.le_refl _) _).alloc (by simp) _
theorem fresh_node (S : Nat → Prop) (w : World) (hS : S w.heap.size) : Node S (fresh w) 0 (.iface 111 (.pointer (some ⟨w.heap.size, 0, none⟩))) (win 0 []) :=
  ⟨w.heap.size, (zleaf 0).toArray, 0, rfl, fresh_leaf w, by simp [zleaf_len], by simpa using zleaf_last 0, by omega, by omega, fun k hk => ⟨0, by simpa using zleaf_get 0 k hk, fun y hy => by simp [win] at hy⟩, hS⟩
theorem fresh_list (w : World) : IsList (fresh w) (.pointer (some ⟨w.heap.size + 1, 0, none⟩)) 0 [] :=
  ⟨w.heap.size + 1, 0, 0, rfl, w.heap.size, fresh_head w, fresh_node _ w trivial, by simp [Dep]⟩

set_option maxRecDepth 100000 in
set_option maxHeartbeats 800000 in
theorem new0_w (w : World) : Calls Try.prog 55 #[.slice none 0 0] w fun e w' => e = .returned (.pointer (some ⟨w.heap.size + 1, 0, none⟩)) ∧ w' = fresh w := by
  go_enter Try.func55, Try.ntmps55
  go_wp2_with fail
  change Code.wp _ _ _ _ (fresh w)
  generalize hW : fresh w = W
  have HW := Lib.hid hW
  clear hW
  refine wp_loop_once ?_
  go_wp2_with fail
  go_ret
  exact ⟨rfl, HW.out.symm⟩

theorem new0 (w : World) : Calls Try.prog 55 #[.slice none 0 0] w (ListPost w 0 []) := (new0_w w).mono fun e w' h => by
  obtain ⟨rfl, rfl⟩ := h
  exact ⟨_, rfl, fresh_list w, fresh_below w⟩

end Go.Proofs.Ytnahipfdnadccaa
