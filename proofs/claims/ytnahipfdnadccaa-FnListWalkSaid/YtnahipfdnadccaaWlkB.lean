/- ListWalk: what moves over a list tell. Conditions of this file: none. -/
import Derived.Test.YtnahipfdnadccaaWlkA
namespace Go.Proofs.Ytnahipfdnadccaa
open Go.RowKit

theorem set_at65 {w : World} {sb : Nat} {c c' : Array Value} (i : Nat) (x : Value) (h : w.heap[sb]? = some (.cells c 65 (0, 0))) (hc : c.setIfInBounds i x = c') :
    (w.setCell ⟨sb, i, none⟩ x).heap[sb]? = some (.cells c' 65 (0, 0)) := by
  have h1 := heap_setCell_same w sb i _ 65 x h
  rw [← hc]
  exact h1
theorem walk_next {xs : List Int} {moves : List Mov} {j L k : Nat} {idx idx' m : Int} {sn : List Sn} {s : Sn} {dn : Bool} (hs : moves[j]? = some ⟨k, m⟩) (hR : mvs xs (moves.take j) (0, []) = (idx, sn)) (hL : L = xs.length) (hk : k ≤ 4)
    (hix : -1 ≤ idx ∧ idx ≤ L) (hkk : ∀ (i : Nat) (a : Mov), (moves.take j)[i]? = some a → a.k ≤ 4) (hT : Mov.tell xs idx ⟨k, m⟩ = s ∧ mvTo xs idx k m = idx' ∧ isDone idx' L = dn) :
    mvs xs (moves.take (j + 1)) (0, []) = (idx', sn ++ [s]) ∧ (-1 ≤ idx' ∧ idx' ≤ L) ∧ (∀ (i : Nat) (a : Mov), (moves.take (j + 1))[i]? = some a → a.k ≤ 4) ∧ dn = isDone idx' L := by
  subst hL
  obtain ⟨h1, h2, h3⟩ := hT
  have e : moves.take (j + 1) = moves.take j ++ [⟨k, m⟩] := by rw [List.take_add_one, hs]; rfl
  refine ⟨?_, ?_, ?_, h3.symm⟩
  · rw [e, mvs_snoc, hR]
    simp only [h1, h2]
  · rw [← h2]
    exact mvTo_bound hk hix
  · intro i a ha
    rw [e] at ha
    rcases Nat.lt_or_ge i (moves.take j).length with h | h
    · rw [List.getElem?_append_left h] at ha
      exact hkk i a ha
    · rw [List.getElem?_append_right h] at ha
      have : a = ⟨k, m⟩ := by
        have := List.mem_of_getElem? ha
        simpa using this
      rw [this]
      exact hk

theorem tell_done {xs : List Int} {idx m : Int} {k L : Nat} (hL : L = xs.length) (hk : k ≤ 1) (hd : isDone idx L = true) : Mov.tell xs idx ⟨k, m⟩ = ⟨-1, 0, false, true⟩ ∧ mvTo xs idx k m = idx ∧ isDone idx L = true := by
  subst hL
  have h2 : mvTo xs idx k m = idx := by
    rcases (show k = 0 ∨ k = 1 by omega) with rfl | rfl <;> simp [mvTo, hd]
  refine ⟨?_, h2, hd⟩
  simp only [Mov.tell, h2, hd]
  simp [mvIdx, mvVal, mvPan, hk, hd]
  omega
theorem tell_next {xs : List Int} {m y idx' : Int} {i L : Nat} {dn : Bool} (hL : L = xs.length) (hy : xs[i]? = some y) (he : (i : Int) + 1 = idx') (hd : isDone idx' L = dn) :
    Mov.tell xs i ⟨0, m⟩ = ⟨i, y, false, dn⟩ ∧ mvTo xs i 0 m = idx' ∧ isDone idx' L = dn := by
  subst hL
  have hi : i < xs.length := (List.getElem?_eq_some_iff.1 hy).1
  have h0 : isDone (i : Int) xs.length = false := not_done (by omega) (by omega)
  have h2 : mvTo xs i 0 m = idx' := by simp only [mvTo, h0]; simp; exact he
  refine ⟨?_, h2, hd⟩
  have h3 : ((i : Nat) : Int).toNat = i := Int.toNat_natCast _
  simp only [Mov.tell, h2, hd]
  simp [mvIdx, mvVal, mvPan, h0, h3, hy]
theorem tell_prev {xs : List Int} {m y idx' : Int} {i L : Nat} {dn : Bool} (hL : L = xs.length) (hy : xs[i]? = some y) (he : (i : Int) - 1 = idx') (hd : isDone idx' L = dn) :
    Mov.tell xs i ⟨1, m⟩ = ⟨i, y, false, dn⟩ ∧ mvTo xs i 1 m = idx' ∧ isDone idx' L = dn := by
  subst hL
  have hi : i < xs.length := (List.getElem?_eq_some_iff.1 hy).1
  have h0 : isDone (i : Int) xs.length = false := not_done (by omega) (by omega)
  have h2 : mvTo xs i 1 m = idx' := by simp only [mvTo, h0]; simp; exact he
  refine ⟨?_, h2, hd⟩
  have h3 : ((i : Nat) : Int).toNat = i := Int.toNat_natCast _
  simp only [Mov.tell, h2, hd]
  simp [mvIdx, mvVal, mvPan, h0, h3, hy]
theorem tell_first {xs : List Int} {m idx : Int} {L : Nat} (hL : L = xs.length) (hp : 0 < L) : Mov.tell xs idx ⟨2, m⟩ = ⟨0, 0, false, false⟩ ∧ mvTo xs idx 2 m = 0 ∧ isDone 0 L = false := by
  subst hL
  have h0 : isDone 0 xs.length = false := not_done (by omega) (by omega)
  have h2 : mvTo xs idx 2 m = 0 := by
    have : ¬ xs.length = 0 := by omega
    simp [mvTo]
    intro h
    simp [h] at this
  refine ⟨?_, h2, h0⟩
  simp only [Mov.tell, h2, h0]
  simp [mvIdx, mvVal, mvPan]
theorem tell_last {xs : List Int} {m idx : Int} {L l : Nat} (hL : L = xs.length) (hl : l + 1 = L) : Mov.tell xs idx ⟨3, m⟩ = ⟨0, 0, false, false⟩ ∧ mvTo xs idx 3 m = l ∧ isDone (l : Int) L = false := by
  subst hL
  have h0 : isDone (l : Int) xs.length = false := not_done (by omega) (by omega)
  have h2 : mvTo xs idx 3 m = l := by
    have : ¬ xs.length = 0 := by omega
    simp [mvTo]
    rw [if_neg (by intro h; simp [h] at this)]
    omega
  refine ⟨?_, h2, h0⟩
  simp only [Mov.tell, h2, h0]
  simp [mvIdx, mvVal, mvPan]
theorem tell_none {xs : List Int} {m idx : Int} {L k : Nat} {b : Bool} (hL : L = xs.length) (hp : ¬ 0 < L) (hk : k = 2 ∨ k = 3) (hb : b = isDone idx L) : Mov.tell xs idx ⟨k, m⟩ = ⟨0, 0, false, b⟩ ∧ mvTo xs idx k m = idx ∧ isDone idx L = b := by
  subst hL
  have hz : xs.length = 0 := by omega
  have h2 : mvTo xs idx k m = idx := by rcases hk with rfl | rfl <;> simp [mvTo, hz]
  refine ⟨?_, h2, hb.symm⟩
  simp only [Mov.tell, h2, ← hb]
  rcases hk with rfl | rfl <;> simp [mvIdx, mvVal, mvPan]
theorem tell_bad {xs : List Int} {m idx : Int} {L : Nat} {b : Bool} (hL : L = xs.length) (hp : m < 0 ∨ (L : Int) ≤ m) (hb : b = isDone idx L) : Mov.tell xs idx ⟨4, m⟩ = ⟨0, 0, true, b⟩ ∧ mvTo xs idx 4 m = idx ∧ isDone idx L = b := by
  subst hL
  have h1 : mvPan xs 4 m = true := by simp [mvPan]; omega
  have h2 : mvTo xs idx 4 m = idx := by simp [mvTo, h1]
  refine ⟨?_, h2, hb.symm⟩
  simp only [Mov.tell, h2, ← hb, h1]
  simp [mvIdx, mvVal]
theorem tell_seek {xs : List Int} {idx : Int} {L m : Nat} (hL : L = xs.length) (hp : m < L) : Mov.tell xs idx ⟨4, (m : Int)⟩ = ⟨0, 0, false, false⟩ ∧ mvTo xs idx 4 (m : Int) = m ∧ isDone (m : Int) L = false := by
  subst hL
  have h0 : isDone (m : Int) xs.length = false := not_done (by omega) (by omega)
  have h1 : mvPan xs 4 (m : Int) = false := by simp [mvPan]; omega
  have h2 : mvTo xs idx 4 (m : Int) = m := by simp [mvTo, h1]
  refine ⟨?_, h2, h0⟩
  simp only [Mov.tell, h2, h0, h1]
  simp [mvIdx, mvVal]

theorem sn_cells4' {w : World} (s : Sn) (t : TypeId) : ∀ j u, s.cells[j]? = some u → (w.alloc (.cells s.cells.toArray t)).cell? ((⟨w.heap.size, 0, none⟩ : Addr).add j) = some u := sn_cells4 s t

set_option maxRecDepth 100000 in
set_option maxHeartbeats 8000000 in
theorem listWalk_w (v0 mv : Value) (xs : List Int) (moves : List Mov) (w : World) (hx : SlV w v0 (xs.map (Value.int .i64))) (hm : MovV w mv moves) (hml : moves.length ≤ 1000) (hxl : xs.length ≤ 1000000000) :
    Calls Try.prog 26 #[v0, mv] w fun e w' => ∃ sn ok, e = .returned (.tuple #[sn, .bool ok]) ∧ Below w.heap.size w w' ∧
      (ok = true → (∀ (j : Nat) (a : Mov), moves[j]? = some a → a.k ≤ 4) ∧ w'.ownsRow w.heap.size 65 4 sn moves.length ((mvs xs moves (0, [])).2.flatMap Sn.cells)) := by
  obtain ⟨i65, hi, hz0, hz1, hz2⟩ := info_parts info65
  have HI := Lib.hid (And.intro hi (And.intro hz0 (And.intro hz1 hz2)))
  clear hi hz0 hz1 hz2
  obtain ⟨xa, xc, rfl, hxc⟩ := hx
  obtain ⟨ma, mc, rfl, hmc⟩ := hm
  have HX := Lib.hid hxc
  have HM := Lib.hid hmc
  have HML := Lib.hid hml
  obtain ⟨L, hL⟩ : ∃ L, L = xs.length := ⟨_, rfl⟩
  rw [List.length_map, ← hL]
  rw [← hL] at hxl
  have HXL := Lib.hid hL
  have HLB := Lib.hid hxl
  clear hxc hmc hml hL hxl
  go_enter Try.func26, Try.ntmps26
  go_wp2_with fail
  go_loopg [4, 6, 7, 16] moves.length (fun q v4 v6 v7 v16 wr => ∃ (j : Nat) (idx : Int) (sn : List Sn) (sv : Value) (b : Bool), sv = v4 ∧ j + q = moves.length ∧ v16 = .int .i64 (j : Int) ∧ v6 = .int .i64 idx ∧ v7 = .bool b ∧ b = isDone idx L ∧
    mvs xs (moves.take j) (0, []) = (idx, sn) ∧ (-1 ≤ idx ∧ idx ≤ L) ∧ (∀ (i : Nat) (a : Mov), (moves.take j)[i]? = some a → a.k ≤ 4) ∧ wr.ownsRow w.heap.size 65 4 v4 j (sn.flatMap Sn.cells) ∧ Below w.heap.size w wr)
  case atStart =>
    refine ⟨0, 0, [], _, _, rfl, by omega, rfl, rfl, rfl, ?_, rfl, ⟨by omega, by omega⟩, fun i a h => by simp at h, World.ownsRow_nil _ _ _ _, Below.refl _ _⟩
    rw [Bool.eq_iff_iff]
    simp [isDone]
  case round =>
    obtain ⟨j, idx, sn, sv, b, rfl, hjk, rfl, rfl, rfl, hbd, hR, hix, hkk, ho, hb⟩ := hrel
    have HB := Lib.hid hb
    have HO := Lib.hid ho
    have HBD := Lib.hid hbd
    have HIX := Lib.hid hix
    have HR := Lib.hid hR
    have HKK := Lib.hid hkk
    have hw1 : IntKind.i64.wrap ((j : Int) + 1) = ((j + 1 : Nat) : Int) := by have := HML.out; rw [IntKind.wrap_i64]; omega
    clear hb ho hbd hix hR hkk
    by_cases hlt : j < moves.length
    · have h1 : decide ((j : Int) < (moves.length : Int)) = true := by simp; omega
      obtain ⟨⟨k, m⟩, hs⟩ : ∃ s, s = moves[j] := ⟨_, rfl⟩
      have hs' : moves[j]? = some ⟨k, m⟩ := by rw [List.getElem?_eq_getElem hlt, hs]
      obtain ⟨qb, qo, rfl, hcells⟩ := HM.out j _ hs'
      have hqb : qb < w.heap.size := World.block_lt_of_cell? w _ (hcells 0 _ rfl)
      have e0 : wr.cell? ⟨qb, qo + j * 2, none⟩ = some (.int .u8 (k : Int)) := (HB.out.cell hqb).trans (hcells 0 _ rfl)
      have e1 : wr.cell? ⟨qb, qo + j * 2 + 1, none⟩ = some (.int .i64 m) := (HB.out.cell hqb).trans (hcells 1 _ rfl)
      have HS := Lib.hid hs'
      clear hcells hs hs' hqb
      go_upto_region 6 with (fail)
      have hY : But (fun _ => False) wr ((wr.alloc (Obj.cells #[Value.int IntKind.u8 ↑k, Value.int IntKind.i64 m] 85)).alloc (Obj.cells #[Value.int IntKind.i64 0, Value.int IntKind.i64 0, Value.bool false, Value.bool false] 65)) := ((But.refl (fun _ => False) wr).alloc _).alloc _
      have hYm : ((wr.alloc (Obj.cells #[Value.int IntKind.u8 ↑k, Value.int IntKind.i64 m] 85)).alloc (Obj.cells #[Value.int IntKind.i64 0, Value.int IntKind.i64 0, Value.bool false, Value.bool false] 65)).heap[wr.heap.size]? = some (.cells #[.int .u8 (k : Int), .int .i64 m] 85 (0, 0)) :=
        ((But.refl (fun _ => False) _).alloc _).at (heap_alloc_last wr _) id
      have hYs : ((wr.alloc (Obj.cells #[Value.int IntKind.u8 ↑k, Value.int IntKind.i64 m] 85)).alloc (Obj.cells #[Value.int IntKind.i64 0, Value.int IntKind.i64 0, Value.bool false, Value.bool false] 65)).heap[wr.heap.size + 1]? = some (.cells #[.int .i64 0, .int .i64 0, .bool false, .bool false] 65 (0, 0)) := by
        have := heap_alloc_last (wr.alloc (Obj.cells #[Value.int IntKind.u8 ↑k, Value.int IntKind.i64 m] 85)) (Obj.cells #[Value.int IntKind.i64 0, Value.int IntKind.i64 0, Value.bool false, Value.bool false] 65)
        simpa using this
      have HsB : Hid (wr.heap.size ≤ wr.heap.size + 1) := Nat.le_succ _
      have hmn : ¬ wr.heap.size = wr.heap.size + 1 := by omega
      generalize wr.heap.size + 1 = sb at hYs HsB hmn ⊢
      generalize wr.heap.size = mb at hYm hmn ⊢
      generalize (wr.alloc (Obj.cells #[Value.int IntKind.u8 ↑k, Value.int IntKind.i64 m] 85)).alloc (Obj.cells #[Value.int IntKind.i64 0, Value.int IntKind.i64 0, Value.bool false, Value.bool false] 65) = Y at hY hYm hYs ⊢
      have HY := Lib.hid hY
      have HYB : Hid (Below w.heap.size w Y) := HB.out.trans (hY.below HB.out.size fun _ h => h.elim)
      have HYs := Lib.hid hYs
      have HYm := Lib.hid hYm
      have HMN := Lib.hid hmn
      clear e0 e1 hY hYm hYs hmn
      have m1 := cell_at (j := 1) HYm.out rfl
      rcases (show k = 0 ∨ k = 1 ∨ k = 2 ∨ k = 3 ∨ k = 4 ∨ 5 ≤ k by omega) with hk | hk | hk | hk | hk | hk
      · subst hk
        have m0 : Y.cell? ⟨mb, 0, none⟩ = some (.int .u8 0) := cell_at (j := 0) HYm.out rfl
        cases b with
        | true =>
          by_cases hLp : 0 < L
          · have dLp : decide ((0 : Int) < (L : Int)) = true := by simp; omega
            go_wp2_with fail
            refine bodyPost_ret (results_tmp2 rfl _ _ _) rfl ?_
            exact ⟨_, false, rfl, HYB.out, fun h => by cases h⟩
          · have dLp : decide ((0 : Int) < (L : Int)) = false := by simp; omega
            have HT : Hid (Mov.tell xs idx ⟨0, m⟩ = ⟨-1, 0, false, true⟩ ∧ mvTo xs idx 0 m = idx ∧ isDone idx L = true) := tell_done HXL.out (by decide) HBD.out.symm
            have x0 := cell_at (j := 0) HYs.out rfl
            have g0 : Y.frozen? ⟨sb, 0, none⟩ = false := frozen_of_row _ _ _ _ _ HYs.out
            go_upto_region 29 with (fail)
            have hX1 : But (· = sb) Y (Y.setCell ⟨sb, 0, none⟩ (.int .i64 (-1))) := (But.refl (· = sb) Y).setCell (p := ⟨sb, 0, none⟩) (.inl rfl) _
            have hX1s := set_at65 0 (.int .i64 (-1)) HYs.out rfl
            clear x0 g0
            generalize Y.setCell ⟨sb, 0, none⟩ (.int .i64 (-1)) = X1 at hX1 hX1s ⊢
            have HX1 := Lib.hid hX1
            have HX1s := Lib.hid hX1s
            clear hX1 hX1s
            have x3 := cell_at (j := 3) HX1s.out rfl
            have g3 : X1.frozen? ⟨sb, 3, none⟩ = false := frozen_of_row _ _ _ _ _ HX1s.out
            go_upto_region 30 with (fail)
            have hZ : But (· = sb) Y (X1.setCell ⟨sb, 3, none⟩ (.bool true)) := HX1.out.setCell (p := ⟨sb, 3, none⟩) (.inl rfl) _
            have hZs := set_at65 3 (.bool true) HX1s.out rfl
            clear x3 g3 m0 m1
            generalize X1.setCell ⟨sb, 3, none⟩ (.bool true) = Z at hZ hZs ⊢
            have hWZ : But (fun _ => False) wr Z := ((HY.out.wider (S' := (· = sb)) fun _ _ h => h.elim).trans hZ).wider fun k hk h => by have := HsB.out; have h' : k = sb := h; omega
            have hZw : Below wr.heap.size wr Z := hWZ.below (Nat.le_refl _) fun _ h => h.elim
            have HZo := Lib.hid (own_below HO.out hZw)
            have HZb : Hid (Below w.heap.size w Z) := HB.out.trans (hZw.mono HB.out.size)
            have s0 := cell_at (j := 0) hZs rfl
            have s1 := cell_at (j := 1) hZs rfl
            have s2 := cell_at (j := 2) hZs rfl
            have s3 := cell_at (j := 3) hZs rfl
            clear hZ hZs hWZ hZw HX1 HX1s HY HYs HYm HYB HO HB
            go_wp2_with (at_builtin; refine wpList_append_own _ rfl (.tmp 83) (.tmp 85) 61 rfl w.heap.size 65 i65 (.agg #[.int .i64 0, .int .i64 0, .bool false, .bool false]) 4 24 Try.underlying61 HI.out.1 HI.out.2.1 HI.out.2.2.1 HI.out.2.2.2 rfl (by decide) _ _ _ rfl (HZo.out.alloc _) ⟨Z.heap.size, 0, none⟩ 1 1 (Sn.cells ⟨(-1), 0, false, true⟩) rfl rfl (sn_cells4 _ _) (sn_one _) (by have := HML.out; unfold maxLen; omega) (by have := HML.out; omega) (by have := HZb.out.size; simp; omega) ?_)
            intro v2 w5 hown2 hgrow2 _
            have hB5 := below_grown (HZb.out.alloc HZb.out.size (.cells (Sn.cells ⟨(-1), 0, false, true⟩).toArray 65)) HZo.out (Nat.le_refl _) (Nat.le_refl _) hgrow2
            have HFIN := Lib.hid (And.intro hown2 hB5)
            clear hown2 hgrow2 hB5 s0 s1 s2 s3 HZo HZb
            go_wp2_with fail
            go_roundg (gk - 1)
            case measure => omega
            case rel =>
              obtain ⟨q1, q2, q3, q4⟩ := walk_next HS.out HR.out HXL.out (by omega) HIX.out HKK.out HT.out
              refine ⟨j + 1, _, _, _, _, rfl, by omega, rfl, rfl, rfl, q4, q1, q2, q3, ?_, HFIN.out.2⟩
              simpa [List.flatMap_append, List.flatMap_cons, List.flatMap_nil] using HFIN.out.1
        | false =>
          obtain ⟨i, hi, rfl⟩ : ∃ i : Nat, i < L ∧ idx = i := by
            have h := HBD.out
            simp [isDone] at h
            exact ⟨idx.toNat, by omega, by omega⟩
          obtain ⟨y, hy⟩ : ∃ y, xs[i]? = some y := ⟨xs[i]'(by have := HXL.out; omega), List.getElem?_eq_getElem _⟩
          obtain ⟨g, o, rfl, hc⟩ := HX.out i (.int .i64 y) (by rw [List.getElem?_map, hy]; rfl)
          have HY1 := Lib.hid hy
          have HG : Hid (g < w.heap.size) := World.block_lt_of_cell? w _ hc
          have HC := Lib.hid hc
          clear hy hc
          go_upto_region 14 with (fail)
          have HYB2 : Hid (Below w.heap.size w Y.drew) := HYB.out.drew
          have hX0 : But (· = sb) Y Y.drew := (But.refl (· = sb) Y).drew
          have hX0s : Y.drew.heap[sb]? = some (.cells #[.int .i64 0, .int .i64 0, .bool false, .bool false] 65 (0, 0)) := HYs.out
          clear m0 m1
          refine region_tree (fun W => Below w.heap.size w W) (.one [0, 1, 2, 3, 4, 5] 6 (.one [7] 8 .stop)) (by kernel_rfl) (by intro dst v c a w h; cases dst <;> exact h) (by kernel_rfl) HYB2.out ?_
          generalize Y.drew = Y2 at HYB2 hX0 hX0s ⊢
          have HX0 := Lib.hid hX0
          have HX0s := Lib.hid hX0s
          clear hX0 hX0s
          refine t_one ?_
          simp only [opsOf, List.getElem?_toArray, List.getElem?_cons_succ, List.getElem?_cons_zero]
          repeat (refine r_read ?_ (by kernel_rfl) ?_ (fun K hK => ?_); rotate_left 1; (intro W hR; have hc1 := (hR.cell HG.out).trans HC.out; clear hR; go_simp; try with_reducible rfl); go_simp; refine hK _ ?_; clear hK K)
          refine t_nil1 ?_
          have x0 := cell_at (j := 0) HX0s.out rfl
          have g0 : Y2.frozen? ⟨sb, 0, none⟩ = false := frozen_of_row _ _ _ _ _ HX0s.out
          refine r_op rfl (fun K hK => ?_)
          go_simp
          have hX1 := HX0.out.setCell (p := ⟨sb, 0, none⟩) (.inl rfl) (.int .i64 (i : Int))
          have hX1s := set_at65 0 (.int .i64 (i : Int)) HX0s.out rfl
          have hX1b : Below w.heap.size w (Y2.setCell ⟨sb, 0, none⟩ (.int .i64 (i : Int))) := HB.out.trans ((((HY.out.wider (S' := (· = sb)) fun _ _ h => h.elim).trans hX1).wider (S' := fun _ => False) fun k hk h => by have := HsB.out; have h' : k = sb := h; omega).below HB.out.size fun _ h => h.elim)
          clear x0 g0 HX0 HX0s HYB2
          refine hK _ _ hX1b ?_
          clear hK K hX1b
          generalize Y2.setCell ⟨sb, 0, none⟩ (.int .i64 (i : Int)) = Y3 at hX1 hX1s ⊢
          have HX0 := Lib.hid hX1
          have HX0s := Lib.hid hX1s
          clear hX1 hX1s
          refine t_one ?_
          simp only [opsOf, List.getElem?_toArray, List.getElem?_cons_succ, List.getElem?_cons_zero]
          repeat (refine r_read ?_ (by kernel_rfl) ?_ (fun K hK => ?_); rotate_left 1; (intro W hR; skip; clear hR; go_simp; try with_reducible rfl); go_simp; refine hK _ ?_; clear hK K)
          refine t_nil1 ?_
          have x0 := cell_at (j := 1) HX0s.out rfl
          have g0 : Y3.frozen? ⟨sb, 1, none⟩ = false := frozen_of_row _ _ _ _ _ HX0s.out
          refine r_op rfl (fun K hK => ?_)
          go_simp
          have hX1 := HX0.out.setCell (p := ⟨sb, 1, none⟩) (.inl rfl) (.int .i64 y)
          have hX1s := set_at65 1 (.int .i64 y) HX0s.out rfl
          have hX1b : Below w.heap.size w (Y3.setCell ⟨sb, 1, none⟩ (.int .i64 y)) := HB.out.trans ((((HY.out.wider (S' := (· = sb)) fun _ _ h => h.elim).trans hX1).wider (S' := fun _ => False) fun k hk h => by have := HsB.out; have h' : k = sb := h; omega).below HB.out.size fun _ h => h.elim)
          clear x0 g0 HX0 HX0s
          refine hK _ _ hX1b ?_
          clear hK K hX1b
          generalize Y3.setCell ⟨sb, 1, none⟩ (.int .i64 y) = X1 at hX1 hX1s ⊢
          refine t_end ?_
          have m0 : X1.cell? ⟨mb, 0, none⟩ = some (.int .u8 0) := cell_at (j := 0) (hX1.at HYm.out HMN.out) rfl
          have m1 := m0
          by_cases hil : i + 1 = L
          · have hw : IntKind.i64.wrap ((i : Int) + 1) = (L : Int) := by have := HLB.out; rw [IntKind.wrap_i64]; omega
            have hLL : ((L : Int) == (L : Int)) = true := by simp
            have HT : Hid (Mov.tell xs i ⟨0, m⟩ = ⟨i, y, false, true⟩ ∧ mvTo xs i 0 m = (L : Int) ∧ isDone (L : Int) L = true) := tell_next HXL.out HY1.out (by omega) (by simp [isDone])
            go_upto_region 29 with (fail)
            have HX1 := Lib.hid hX1
            have HX1s := Lib.hid hX1s
            clear hX1 hX1s
            have x3 := cell_at (j := 3) HX1s.out rfl
            have g3 : X1.frozen? ⟨sb, 3, none⟩ = false := frozen_of_row _ _ _ _ _ HX1s.out
            go_upto_region 30 with (fail)
            have hZ : But (· = sb) Y (X1.setCell ⟨sb, 3, none⟩ (.bool true)) := HX1.out.setCell (p := ⟨sb, 3, none⟩) (.inl rfl) _
            have hZs := set_at65 3 (.bool true) HX1s.out rfl
            clear x3 g3 m0 m1
            generalize X1.setCell ⟨sb, 3, none⟩ (.bool true) = Z at hZ hZs ⊢
            have hWZ : But (fun _ => False) wr Z := ((HY.out.wider (S' := (· = sb)) fun _ _ h => h.elim).trans hZ).wider fun k hk h => by have := HsB.out; have h' : k = sb := h; omega
            have hZw : Below wr.heap.size wr Z := hWZ.below (Nat.le_refl _) fun _ h => h.elim
            have HZo := Lib.hid (own_below HO.out hZw)
            have HZb : Hid (Below w.heap.size w Z) := HB.out.trans (hZw.mono HB.out.size)
            have s0 := cell_at (j := 0) hZs rfl
            have s1 := cell_at (j := 1) hZs rfl
            have s2 := cell_at (j := 2) hZs rfl
            have s3 := cell_at (j := 3) hZs rfl
            clear hZ hZs hWZ hZw HX1 HX1s HY HYs HYm HYB HO HB
            go_wp2_with (at_builtin; refine wpList_append_own _ rfl (.tmp 83) (.tmp 85) 61 rfl w.heap.size 65 i65 (.agg #[.int .i64 0, .int .i64 0, .bool false, .bool false]) 4 24 Try.underlying61 HI.out.1 HI.out.2.1 HI.out.2.2.1 HI.out.2.2.2 rfl (by decide) _ _ _ rfl (HZo.out.alloc _) ⟨Z.heap.size, 0, none⟩ 1 1 (Sn.cells ⟨(i : Int), y, false, true⟩) rfl rfl (sn_cells4 _ _) (sn_one _) (by have := HML.out; unfold maxLen; omega) (by have := HML.out; omega) (by have := HZb.out.size; simp; omega) ?_)
            intro v2 w5 hown2 hgrow2 _
            have hB5 := below_grown (HZb.out.alloc HZb.out.size (.cells (Sn.cells ⟨(i : Int), y, false, true⟩).toArray 65)) HZo.out (Nat.le_refl _) (Nat.le_refl _) hgrow2
            have HFIN := Lib.hid (And.intro hown2 hB5)
            clear hown2 hgrow2 hB5 s0 s1 s2 s3 HZo HZb
            go_wp2_with fail
            go_roundg (gk - 1)
            case measure => omega
            case rel =>
              obtain ⟨q1, q2, q3, q4⟩ := walk_next HS.out HR.out HXL.out (by omega) HIX.out HKK.out HT.out
              refine ⟨j + 1, _, _, _, _, rfl, by omega, rfl, rfl, rfl, q4, q1, q2, q3, ?_, HFIN.out.2⟩
              simpa [List.flatMap_append, List.flatMap_cons, List.flatMap_nil] using HFIN.out.1
          · obtain ⟨i2, hi2⟩ : ∃ i2, i2 = i + 1 := ⟨_, rfl⟩
            have hw : IntKind.i64.wrap ((i : Int) + 1) = (i2 : Int) := by have := HLB.out; rw [IntKind.wrap_i64]; omega
            have hLL : ((i2 : Int) == (L : Int)) = false := by simp; omega
            have hl2 : ¬ i2 = L := by omega
            have dz : decide ((i2 : Int) < 0) = false := by simp
            have HT : Hid (Mov.tell xs i ⟨0, m⟩ = ⟨i, y, false, false⟩ ∧ mvTo xs i 0 m = (i2 : Int) ∧ isDone (i2 : Int) L = false) := tell_next HXL.out HY1.out (by omega) (not_done (by omega) (by omega))
            clear hi2
            go_upto_region 29 with (fail)
            have HX1 := Lib.hid hX1
            have HX1s := Lib.hid hX1s
            clear hX1 hX1s
            have x3 := cell_at (j := 3) HX1s.out rfl
            have g3 : X1.frozen? ⟨sb, 3, none⟩ = false := frozen_of_row _ _ _ _ _ HX1s.out
            go_upto_region 30 with (fail)
            have hZ : But (· = sb) Y (X1.setCell ⟨sb, 3, none⟩ (.bool false)) := HX1.out.setCell (p := ⟨sb, 3, none⟩) (.inl rfl) _
            have hZs := set_at65 3 (.bool false) HX1s.out rfl
            clear x3 g3 m0 m1
            generalize X1.setCell ⟨sb, 3, none⟩ (.bool false) = Z at hZ hZs ⊢
            have hWZ : But (fun _ => False) wr Z := ((HY.out.wider (S' := (· = sb)) fun _ _ h => h.elim).trans hZ).wider fun k hk h => by have := HsB.out; have h' : k = sb := h; omega
            have hZw : Below wr.heap.size wr Z := hWZ.below (Nat.le_refl _) fun _ h => h.elim
            have HZo := Lib.hid (own_below HO.out hZw)
            have HZb : Hid (Below w.heap.size w Z) := HB.out.trans (hZw.mono HB.out.size)
            have s0 := cell_at (j := 0) hZs rfl
            have s1 := cell_at (j := 1) hZs rfl
            have s2 := cell_at (j := 2) hZs rfl
            have s3 := cell_at (j := 3) hZs rfl
            clear hZ hZs hWZ hZw HX1 HX1s HY HYs HYm HYB HO HB
            go_wp2_with (at_builtin; refine wpList_append_own _ rfl (.tmp 83) (.tmp 85) 61 rfl w.heap.size 65 i65 (.agg #[.int .i64 0, .int .i64 0, .bool false, .bool false]) 4 24 Try.underlying61 HI.out.1 HI.out.2.1 HI.out.2.2.1 HI.out.2.2.2 rfl (by decide) _ _ _ rfl (HZo.out.alloc _) ⟨Z.heap.size, 0, none⟩ 1 1 (Sn.cells ⟨(i : Int), y, false, false⟩) rfl rfl (sn_cells4 _ _) (sn_one _) (by have := HML.out; unfold maxLen; omega) (by have := HML.out; omega) (by have := HZb.out.size; simp; omega) ?_)
            intro v2 w5 hown2 hgrow2 _
            have hB5 := below_grown (HZb.out.alloc HZb.out.size (.cells (Sn.cells ⟨(i : Int), y, false, false⟩).toArray 65)) HZo.out (Nat.le_refl _) (Nat.le_refl _) hgrow2
            have HFIN := Lib.hid (And.intro hown2 hB5)
            clear hown2 hgrow2 hB5 s0 s1 s2 s3 HZo HZb
            go_wp2_with fail
            go_roundg (gk - 1)
            case measure => omega
            case rel =>
              obtain ⟨q1, q2, q3, q4⟩ := walk_next HS.out HR.out HXL.out (by omega) HIX.out HKK.out HT.out
              refine ⟨j + 1, _, _, _, _, rfl, by omega, rfl, rfl, rfl, q4, q1, q2, q3, ?_, HFIN.out.2⟩
              simpa [List.flatMap_append, List.flatMap_cons, List.flatMap_nil] using HFIN.out.1
      · subst hk
        have m0 : Y.cell? ⟨mb, 0, none⟩ = some (.int .u8 1) := cell_at (j := 0) HYm.out rfl
        cases b with
        | true =>
          by_cases hLp : 0 < L
          · have dLp : decide ((0 : Int) < (L : Int)) = true := by simp; omega
            go_wp2_with fail
            refine bodyPost_ret (results_tmp2 rfl _ _ _) rfl ?_
            exact ⟨_, false, rfl, HYB.out, fun h => by cases h⟩
          · have dLp : decide ((0 : Int) < (L : Int)) = false := by simp; omega
            have HT : Hid (Mov.tell xs idx ⟨1, m⟩ = ⟨-1, 0, false, true⟩ ∧ mvTo xs idx 1 m = idx ∧ isDone idx L = true) := tell_done HXL.out (by decide) HBD.out.symm
            have x0 := cell_at (j := 0) HYs.out rfl
            have g0 : Y.frozen? ⟨sb, 0, none⟩ = false := frozen_of_row _ _ _ _ _ HYs.out
            go_upto_region 29 with (fail)
            have hX1 : But (· = sb) Y (Y.setCell ⟨sb, 0, none⟩ (.int .i64 (-1))) := (But.refl (· = sb) Y).setCell (p := ⟨sb, 0, none⟩) (.inl rfl) _
            have hX1s := set_at65 0 (.int .i64 (-1)) HYs.out rfl
            clear x0 g0
            generalize Y.setCell ⟨sb, 0, none⟩ (.int .i64 (-1)) = X1 at hX1 hX1s ⊢
            have HX1 := Lib.hid hX1
            have HX1s := Lib.hid hX1s
            clear hX1 hX1s
            have x3 := cell_at (j := 3) HX1s.out rfl
            have g3 : X1.frozen? ⟨sb, 3, none⟩ = false := frozen_of_row _ _ _ _ _ HX1s.out
            go_upto_region 30 with (fail)
            have hZ : But (· = sb) Y (X1.setCell ⟨sb, 3, none⟩ (.bool true)) := HX1.out.setCell (p := ⟨sb, 3, none⟩) (.inl rfl) _
            have hZs := set_at65 3 (.bool true) HX1s.out rfl
            clear x3 g3 m0 m1
            generalize X1.setCell ⟨sb, 3, none⟩ (.bool true) = Z at hZ hZs ⊢
            have hWZ : But (fun _ => False) wr Z := ((HY.out.wider (S' := (· = sb)) fun _ _ h => h.elim).trans hZ).wider fun k hk h => by have := HsB.out; have h' : k = sb := h; omega
            have hZw : Below wr.heap.size wr Z := hWZ.below (Nat.le_refl _) fun _ h => h.elim
            have HZo := Lib.hid (own_below HO.out hZw)
            have HZb : Hid (Below w.heap.size w Z) := HB.out.trans (hZw.mono HB.out.size)
            have s0 := cell_at (j := 0) hZs rfl
            have s1 := cell_at (j := 1) hZs rfl
            have s2 := cell_at (j := 2) hZs rfl
            have s3 := cell_at (j := 3) hZs rfl
            clear hZ hZs hWZ hZw HX1 HX1s HY HYs HYm HYB HO HB
            go_wp2_with (at_builtin; refine wpList_append_own _ rfl (.tmp 83) (.tmp 85) 61 rfl w.heap.size 65 i65 (.agg #[.int .i64 0, .int .i64 0, .bool false, .bool false]) 4 24 Try.underlying61 HI.out.1 HI.out.2.1 HI.out.2.2.1 HI.out.2.2.2 rfl (by decide) _ _ _ rfl (HZo.out.alloc _) ⟨Z.heap.size, 0, none⟩ 1 1 (Sn.cells ⟨(-1), 0, false, true⟩) rfl rfl (sn_cells4 _ _) (sn_one _) (by have := HML.out; unfold maxLen; omega) (by have := HML.out; omega) (by have := HZb.out.size; simp; omega) ?_)
            intro v2 w5 hown2 hgrow2 _
            have hB5 := below_grown (HZb.out.alloc HZb.out.size (.cells (Sn.cells ⟨(-1), 0, false, true⟩).toArray 65)) HZo.out (Nat.le_refl _) (Nat.le_refl _) hgrow2
            have HFIN := Lib.hid (And.intro hown2 hB5)
            clear hown2 hgrow2 hB5 s0 s1 s2 s3 HZo HZb
            go_wp2_with fail
            go_roundg (gk - 1)
            case measure => omega
            case rel =>
              obtain ⟨q1, q2, q3, q4⟩ := walk_next HS.out HR.out HXL.out (by omega) HIX.out HKK.out HT.out
              refine ⟨j + 1, _, _, _, _, rfl, by omega, rfl, rfl, rfl, q4, q1, q2, q3, ?_, HFIN.out.2⟩
              simpa [List.flatMap_append, List.flatMap_cons, List.flatMap_nil] using HFIN.out.1
        | false =>
          obtain ⟨i, hi, rfl⟩ : ∃ i : Nat, i < L ∧ idx = i := by
            have h := HBD.out
            simp [isDone] at h
            exact ⟨idx.toNat, by omega, by omega⟩
          obtain ⟨y, hy⟩ : ∃ y, xs[i]? = some y := ⟨xs[i]'(by have := HXL.out; omega), List.getElem?_eq_getElem _⟩
          obtain ⟨g, o, rfl, hc⟩ := HX.out i (.int .i64 y) (by rw [List.getElem?_map, hy]; rfl)
          have HY1 := Lib.hid hy
          have HG : Hid (g < w.heap.size) := World.block_lt_of_cell? w _ hc
          have HC := Lib.hid hc
          clear hy hc
          go_upto_region 14 with (fail)
          have HYB2 : Hid (Below w.heap.size w Y.drew) := HYB.out.drew
          have hX0 : But (· = sb) Y Y.drew := (But.refl (· = sb) Y).drew
          have hX0s : Y.drew.heap[sb]? = some (.cells #[.int .i64 0, .int .i64 0, .bool false, .bool false] 65 (0, 0)) := HYs.out
          clear m0 m1
          refine region_tree (fun W => Below w.heap.size w W) (.one [0, 1, 2, 3, 4, 5] 6 (.one [7] 8 .stop)) (by kernel_rfl) (by intro dst v c a w h; cases dst <;> exact h) (by kernel_rfl) HYB2.out ?_
          generalize Y.drew = Y2 at HYB2 hX0 hX0s ⊢
          have HX0 := Lib.hid hX0
          have HX0s := Lib.hid hX0s
          clear hX0 hX0s
          refine t_one ?_
          simp only [opsOf, List.getElem?_toArray, List.getElem?_cons_succ, List.getElem?_cons_zero]
          repeat (refine r_read ?_ (by kernel_rfl) ?_ (fun K hK => ?_); rotate_left 1; (intro W hR; have hc1 := (hR.cell HG.out).trans HC.out; clear hR; go_simp; try with_reducible rfl); go_simp; refine hK _ ?_; clear hK K)
          refine t_nil1 ?_
          have x0 := cell_at (j := 0) HX0s.out rfl
          have g0 : Y2.frozen? ⟨sb, 0, none⟩ = false := frozen_of_row _ _ _ _ _ HX0s.out
          refine r_op rfl (fun K hK => ?_)
          go_simp
          have hX1 := HX0.out.setCell (p := ⟨sb, 0, none⟩) (.inl rfl) (.int .i64 (i : Int))
          have hX1s := set_at65 0 (.int .i64 (i : Int)) HX0s.out rfl
          have hX1b : Below w.heap.size w (Y2.setCell ⟨sb, 0, none⟩ (.int .i64 (i : Int))) := HB.out.trans ((((HY.out.wider (S' := (· = sb)) fun _ _ h => h.elim).trans hX1).wider (S' := fun _ => False) fun k hk h => by have := HsB.out; have h' : k = sb := h; omega).below HB.out.size fun _ h => h.elim)
          clear x0 g0 HX0 HX0s HYB2
          refine hK _ _ hX1b ?_
          clear hK K hX1b
          generalize Y2.setCell ⟨sb, 0, none⟩ (.int .i64 (i : Int)) = Y3 at hX1 hX1s ⊢
          have HX0 := Lib.hid hX1
          have HX0s := Lib.hid hX1s
          clear hX1 hX1s
          refine t_one ?_
          simp only [opsOf, List.getElem?_toArray, List.getElem?_cons_succ, List.getElem?_cons_zero]
          repeat (refine r_read ?_ (by kernel_rfl) ?_ (fun K hK => ?_); rotate_left 1; (intro W hR; skip; clear hR; go_simp; try with_reducible rfl); go_simp; refine hK _ ?_; clear hK K)
          refine t_nil1 ?_
          have x0 := cell_at (j := 1) HX0s.out rfl
          have g0 : Y3.frozen? ⟨sb, 1, none⟩ = false := frozen_of_row _ _ _ _ _ HX0s.out
          refine r_op rfl (fun K hK => ?_)
          go_simp
          have hX1 := HX0.out.setCell (p := ⟨sb, 1, none⟩) (.inl rfl) (.int .i64 y)
          have hX1s := set_at65 1 (.int .i64 y) HX0s.out rfl
          have hX1b : Below w.heap.size w (Y3.setCell ⟨sb, 1, none⟩ (.int .i64 y)) := HB.out.trans ((((HY.out.wider (S' := (· = sb)) fun _ _ h => h.elim).trans hX1).wider (S' := fun _ => False) fun k hk h => by have := HsB.out; have h' : k = sb := h; omega).below HB.out.size fun _ h => h.elim)
          clear x0 g0 HX0 HX0s
          refine hK _ _ hX1b ?_
          clear hK K hX1b
          generalize Y3.setCell ⟨sb, 1, none⟩ (.int .i64 y) = X1 at hX1 hX1s ⊢
          refine t_end ?_
          have m0 : X1.cell? ⟨mb, 0, none⟩ = some (.int .u8 1) := cell_at (j := 0) (hX1.at HYm.out HMN.out) rfl
          have m1 := m0
          by_cases hil : i = 0
          · have hw : IntKind.i64.wrap ((i : Int) - 1) = -1 := by rw [IntKind.wrap_i64]; omega
            have HT : Hid (Mov.tell xs i ⟨1, m⟩ = ⟨i, y, false, true⟩ ∧ mvTo xs i 1 m = -1 ∧ isDone (-1) L = true) := tell_prev HXL.out HY1.out (by omega) (by simp [isDone])
            clear hil
            go_upto_region 29 with (fail)
            have HX1 := Lib.hid hX1
            have HX1s := Lib.hid hX1s
            clear hX1 hX1s
            have x3 := cell_at (j := 3) HX1s.out rfl
            have g3 : X1.frozen? ⟨sb, 3, none⟩ = false := frozen_of_row _ _ _ _ _ HX1s.out
            go_upto_region 30 with (fail)
            have hZ : But (· = sb) Y (X1.setCell ⟨sb, 3, none⟩ (.bool true)) := HX1.out.setCell (p := ⟨sb, 3, none⟩) (.inl rfl) _
            have hZs := set_at65 3 (.bool true) HX1s.out rfl
            clear x3 g3 m0 m1
            generalize X1.setCell ⟨sb, 3, none⟩ (.bool true) = Z at hZ hZs ⊢
            have hWZ : But (fun _ => False) wr Z := ((HY.out.wider (S' := (· = sb)) fun _ _ h => h.elim).trans hZ).wider fun k hk h => by have := HsB.out; have h' : k = sb := h; omega
            have hZw : Below wr.heap.size wr Z := hWZ.below (Nat.le_refl _) fun _ h => h.elim
            have HZo := Lib.hid (own_below HO.out hZw)
            have HZb : Hid (Below w.heap.size w Z) := HB.out.trans (hZw.mono HB.out.size)
            have s0 := cell_at (j := 0) hZs rfl
            have s1 := cell_at (j := 1) hZs rfl
            have s2 := cell_at (j := 2) hZs rfl
            have s3 := cell_at (j := 3) hZs rfl
            clear hZ hZs hWZ hZw HX1 HX1s HY HYs HYm HYB HO HB
            go_wp2_with (at_builtin; refine wpList_append_own _ rfl (.tmp 83) (.tmp 85) 61 rfl w.heap.size 65 i65 (.agg #[.int .i64 0, .int .i64 0, .bool false, .bool false]) 4 24 Try.underlying61 HI.out.1 HI.out.2.1 HI.out.2.2.1 HI.out.2.2.2 rfl (by decide) _ _ _ rfl (HZo.out.alloc _) ⟨Z.heap.size, 0, none⟩ 1 1 (Sn.cells ⟨(i : Int), y, false, true⟩) rfl rfl (sn_cells4 _ _) (sn_one _) (by have := HML.out; unfold maxLen; omega) (by have := HML.out; omega) (by have := HZb.out.size; simp; omega) ?_)
            intro v2 w5 hown2 hgrow2 _
            have hB5 := below_grown (HZb.out.alloc HZb.out.size (.cells (Sn.cells ⟨(i : Int), y, false, true⟩).toArray 65)) HZo.out (Nat.le_refl _) (Nat.le_refl _) hgrow2
            have HFIN := Lib.hid (And.intro hown2 hB5)
            clear hown2 hgrow2 hB5 s0 s1 s2 s3 HZo HZb
            go_wp2_with fail
            go_roundg (gk - 1)
            case measure => omega
            case rel =>
              obtain ⟨q1, q2, q3, q4⟩ := walk_next HS.out HR.out HXL.out (by omega) HIX.out HKK.out HT.out
              refine ⟨j + 1, _, _, _, _, rfl, by omega, rfl, rfl, rfl, q4, q1, q2, q3, ?_, HFIN.out.2⟩
              simpa [List.flatMap_append, List.flatMap_cons, List.flatMap_nil] using HFIN.out.1
          · obtain ⟨i2, hi2⟩ : ∃ i2, i2 = i - 1 := ⟨_, rfl⟩
            have hw : IntKind.i64.wrap ((i : Int) - 1) = (i2 : Int) := by have := HLB.out; rw [IntKind.wrap_i64]; omega
            have hLL : ((i2 : Int) == (L : Int)) = false := by simp; omega
            have hl2 : ¬ i2 = L := by omega
            have dz : decide ((i2 : Int) < 0) = false := by simp
            have HT : Hid (Mov.tell xs i ⟨1, m⟩ = ⟨i, y, false, false⟩ ∧ mvTo xs i 1 m = (i2 : Int) ∧ isDone (i2 : Int) L = false) := tell_prev HXL.out HY1.out (by omega) (not_done (by omega) (by omega))
            clear hi2
            go_upto_region 29 with (fail)
            have HX1 := Lib.hid hX1
            have HX1s := Lib.hid hX1s
            clear hX1 hX1s
            have x3 := cell_at (j := 3) HX1s.out rfl
            have g3 : X1.frozen? ⟨sb, 3, none⟩ = false := frozen_of_row _ _ _ _ _ HX1s.out
            go_upto_region 30 with (fail)
            have hZ : But (· = sb) Y (X1.setCell ⟨sb, 3, none⟩ (.bool false)) := HX1.out.setCell (p := ⟨sb, 3, none⟩) (.inl rfl) _
            have hZs := set_at65 3 (.bool false) HX1s.out rfl
            clear x3 g3 m0 m1
            generalize X1.setCell ⟨sb, 3, none⟩ (.bool false) = Z at hZ hZs ⊢
            have hWZ : But (fun _ => False) wr Z := ((HY.out.wider (S' := (· = sb)) fun _ _ h => h.elim).trans hZ).wider fun k hk h => by have := HsB.out; have h' : k = sb := h; omega
            have hZw : Below wr.heap.size wr Z := hWZ.below (Nat.le_refl _) fun _ h => h.elim
            have HZo := Lib.hid (own_below HO.out hZw)
            have HZb : Hid (Below w.heap.size w Z) := HB.out.trans (hZw.mono HB.out.size)
            have s0 := cell_at (j := 0) hZs rfl
            have s1 := cell_at (j := 1) hZs rfl
            have s2 := cell_at (j := 2) hZs rfl
            have s3 := cell_at (j := 3) hZs rfl
            clear hZ hZs hWZ hZw HX1 HX1s HY HYs HYm HYB HO HB
            go_wp2_with (at_builtin; refine wpList_append_own _ rfl (.tmp 83) (.tmp 85) 61 rfl w.heap.size 65 i65 (.agg #[.int .i64 0, .int .i64 0, .bool false, .bool false]) 4 24 Try.underlying61 HI.out.1 HI.out.2.1 HI.out.2.2.1 HI.out.2.2.2 rfl (by decide) _ _ _ rfl (HZo.out.alloc _) ⟨Z.heap.size, 0, none⟩ 1 1 (Sn.cells ⟨(i : Int), y, false, false⟩) rfl rfl (sn_cells4 _ _) (sn_one _) (by have := HML.out; unfold maxLen; omega) (by have := HML.out; omega) (by have := HZb.out.size; simp; omega) ?_)
            intro v2 w5 hown2 hgrow2 _
            have hB5 := below_grown (HZb.out.alloc HZb.out.size (.cells (Sn.cells ⟨(i : Int), y, false, false⟩).toArray 65)) HZo.out (Nat.le_refl _) (Nat.le_refl _) hgrow2
            have HFIN := Lib.hid (And.intro hown2 hB5)
            clear hown2 hgrow2 hB5 s0 s1 s2 s3 HZo HZb
            go_wp2_with fail
            go_roundg (gk - 1)
            case measure => omega
            case rel =>
              obtain ⟨q1, q2, q3, q4⟩ := walk_next HS.out HR.out HXL.out (by omega) HIX.out HKK.out HT.out
              refine ⟨j + 1, _, _, _, _, rfl, by omega, rfl, rfl, rfl, q4, q1, q2, q3, ?_, HFIN.out.2⟩
              simpa [List.flatMap_append, List.flatMap_cons, List.flatMap_nil] using HFIN.out.1
      · subst hk
        have m0 : Y.cell? ⟨mb, 0, none⟩ = some (.int .u8 2) := cell_at (j := 0) HYm.out rfl
        by_cases hLp : 0 < L
        · have dLp : decide ((0 : Int) < (L : Int)) = true := by simp; omega
          have HT : Hid (Mov.tell xs idx ⟨2, m⟩ = ⟨0, 0, false, false⟩ ∧ mvTo xs idx 2 m = 0 ∧ isDone 0 L = false) := tell_first HXL.out hLp
          go_upto_region 29 with (fail)
          have hX1 : But (· = sb) Y Y := But.refl _ Y
          have hX1s := HYs.out
          have HX1 := Lib.hid hX1
          have HX1s := Lib.hid hX1s
          clear hX1 hX1s
          have x3 := cell_at (j := 3) HX1s.out rfl
          have g3 : Y.frozen? ⟨sb, 3, none⟩ = false := frozen_of_row _ _ _ _ _ HX1s.out
          go_upto_region 30 with (fail)
          have hZ : But (· = sb) Y (Y.setCell ⟨sb, 3, none⟩ (.bool false)) := HX1.out.setCell (p := ⟨sb, 3, none⟩) (.inl rfl) _
          have hZs := set_at65 3 (.bool false) HX1s.out rfl
          clear x3 g3 m0 m1
          generalize Y.setCell ⟨sb, 3, none⟩ (.bool false) = Z at hZ hZs ⊢
          have hWZ : But (fun _ => False) wr Z := ((HY.out.wider (S' := (· = sb)) fun _ _ h => h.elim).trans hZ).wider fun k hk h => by have := HsB.out; have h' : k = sb := h; omega
          have hZw : Below wr.heap.size wr Z := hWZ.below (Nat.le_refl _) fun _ h => h.elim
          have HZo := Lib.hid (own_below HO.out hZw)
          have HZb : Hid (Below w.heap.size w Z) := HB.out.trans (hZw.mono HB.out.size)
          have s0 := cell_at (j := 0) hZs rfl
          have s1 := cell_at (j := 1) hZs rfl
          have s2 := cell_at (j := 2) hZs rfl
          have s3 := cell_at (j := 3) hZs rfl
          clear hZ hZs hWZ hZw HX1 HX1s HY HYs HYm HYB HO HB
          go_wp2_with (at_builtin; refine wpList_append_own _ rfl (.tmp 83) (.tmp 85) 61 rfl w.heap.size 65 i65 (.agg #[.int .i64 0, .int .i64 0, .bool false, .bool false]) 4 24 Try.underlying61 HI.out.1 HI.out.2.1 HI.out.2.2.1 HI.out.2.2.2 rfl (by decide) _ _ _ rfl (HZo.out.alloc _) ⟨Z.heap.size, 0, none⟩ 1 1 (Sn.cells ⟨0, 0, false, false⟩) rfl rfl (sn_cells4 _ _) (sn_one _) (by have := HML.out; unfold maxLen; omega) (by have := HML.out; omega) (by have := HZb.out.size; simp; omega) ?_)
          intro v2 w5 hown2 hgrow2 _
          have hB5 := below_grown (HZb.out.alloc HZb.out.size (.cells (Sn.cells ⟨0, 0, false, false⟩).toArray 65)) HZo.out (Nat.le_refl _) (Nat.le_refl _) hgrow2
          have HFIN := Lib.hid (And.intro hown2 hB5)
          clear hown2 hgrow2 hB5 s0 s1 s2 s3 HZo HZb
          go_wp2_with fail
          go_roundg (gk - 1)
          case measure => omega
          case rel =>
            obtain ⟨q1, q2, q3, q4⟩ := walk_next HS.out HR.out HXL.out (by omega) HIX.out HKK.out HT.out
            refine ⟨j + 1, _, _, _, _, rfl, by omega, rfl, rfl, rfl, q4, q1, q2, q3, ?_, HFIN.out.2⟩
            simpa [List.flatMap_append, List.flatMap_cons, List.flatMap_nil] using HFIN.out.1
        · have dLp : decide ((0 : Int) < (L : Int)) = false := by simp; omega
          have HT : Hid (Mov.tell xs idx ⟨2, m⟩ = ⟨0, 0, false, b⟩ ∧ mvTo xs idx 2 m = idx ∧ isDone idx L = b) := tell_none HXL.out hLp (by decide) HBD.out
          go_upto_region 29 with (fail)
          have hX1 : But (· = sb) Y Y := But.refl _ Y
          have hX1s := HYs.out
          have HX1 := Lib.hid hX1
          have HX1s := Lib.hid hX1s
          clear hX1 hX1s
          have x3 := cell_at (j := 3) HX1s.out rfl
          have g3 : Y.frozen? ⟨sb, 3, none⟩ = false := frozen_of_row _ _ _ _ _ HX1s.out
          go_upto_region 30 with (fail)
          have hZ : But (· = sb) Y (Y.setCell ⟨sb, 3, none⟩ (.bool b)) := HX1.out.setCell (p := ⟨sb, 3, none⟩) (.inl rfl) _
          have hZs := set_at65 3 (.bool b) HX1s.out rfl
          clear x3 g3 m0 m1
          generalize Y.setCell ⟨sb, 3, none⟩ (.bool b) = Z at hZ hZs ⊢
          have hWZ : But (fun _ => False) wr Z := ((HY.out.wider (S' := (· = sb)) fun _ _ h => h.elim).trans hZ).wider fun k hk h => by have := HsB.out; have h' : k = sb := h; omega
          have hZw : Below wr.heap.size wr Z := hWZ.below (Nat.le_refl _) fun _ h => h.elim
          have HZo := Lib.hid (own_below HO.out hZw)
          have HZb : Hid (Below w.heap.size w Z) := HB.out.trans (hZw.mono HB.out.size)
          have s0 := cell_at (j := 0) hZs rfl
          have s1 := cell_at (j := 1) hZs rfl
          have s2 := cell_at (j := 2) hZs rfl
          have s3 := cell_at (j := 3) hZs rfl
          clear hZ hZs hWZ hZw HX1 HX1s HY HYs HYm HYB HO HB
          go_wp2_with (at_builtin; refine wpList_append_own _ rfl (.tmp 83) (.tmp 85) 61 rfl w.heap.size 65 i65 (.agg #[.int .i64 0, .int .i64 0, .bool false, .bool false]) 4 24 Try.underlying61 HI.out.1 HI.out.2.1 HI.out.2.2.1 HI.out.2.2.2 rfl (by decide) _ _ _ rfl (HZo.out.alloc _) ⟨Z.heap.size, 0, none⟩ 1 1 (Sn.cells ⟨0, 0, false, b⟩) rfl rfl (sn_cells4 _ _) (sn_one _) (by have := HML.out; unfold maxLen; omega) (by have := HML.out; omega) (by have := HZb.out.size; simp; omega) ?_)
          intro v2 w5 hown2 hgrow2 _
          have hB5 := below_grown (HZb.out.alloc HZb.out.size (.cells (Sn.cells ⟨0, 0, false, b⟩).toArray 65)) HZo.out (Nat.le_refl _) (Nat.le_refl _) hgrow2
          have HFIN := Lib.hid (And.intro hown2 hB5)
          clear hown2 hgrow2 hB5 s0 s1 s2 s3 HZo HZb
          go_wp2_with fail
          go_roundg (gk - 1)
          case measure => omega
          case rel =>
            obtain ⟨q1, q2, q3, q4⟩ := walk_next HS.out HR.out HXL.out (by omega) HIX.out HKK.out HT.out
            refine ⟨j + 1, _, _, _, _, rfl, by omega, rfl, rfl, rfl, q4, q1, q2, q3, ?_, HFIN.out.2⟩
            simpa [List.flatMap_append, List.flatMap_cons, List.flatMap_nil] using HFIN.out.1
      · subst hk
        have m0 : Y.cell? ⟨mb, 0, none⟩ = some (.int .u8 3) := cell_at (j := 0) HYm.out rfl
        by_cases hLp : 0 < L
        · have dLp : decide ((0 : Int) < (L : Int)) = true := by simp; omega
          obtain ⟨l, hl⟩ : ∃ l, l + 1 = L := ⟨L - 1, by omega⟩
          have hw : IntKind.i64.wrap ((L : Int) - 1) = (l : Int) := by have := HLB.out; rw [IntKind.wrap_i64]; omega
          have HT : Hid (Mov.tell xs idx ⟨3, m⟩ = ⟨0, 0, false, false⟩ ∧ mvTo xs idx 3 m = (l : Int) ∧ isDone (l : Int) L = false) := tell_last HXL.out hl
          clear hl
          go_upto_region 29 with (fail)
          have hX1 : But (· = sb) Y Y := But.refl _ Y
          have hX1s := HYs.out
          have HX1 := Lib.hid hX1
          have HX1s := Lib.hid hX1s
          clear hX1 hX1s
          have x3 := cell_at (j := 3) HX1s.out rfl
          have g3 : Y.frozen? ⟨sb, 3, none⟩ = false := frozen_of_row _ _ _ _ _ HX1s.out
          go_upto_region 30 with (fail)
          have hZ : But (· = sb) Y (Y.setCell ⟨sb, 3, none⟩ (.bool false)) := HX1.out.setCell (p := ⟨sb, 3, none⟩) (.inl rfl) _
          have hZs := set_at65 3 (.bool false) HX1s.out rfl
          clear x3 g3 m0 m1
          generalize Y.setCell ⟨sb, 3, none⟩ (.bool false) = Z at hZ hZs ⊢
          have hWZ : But (fun _ => False) wr Z := ((HY.out.wider (S' := (· = sb)) fun _ _ h => h.elim).trans hZ).wider fun k hk h => by have := HsB.out; have h' : k = sb := h; omega
          have hZw : Below wr.heap.size wr Z := hWZ.below (Nat.le_refl _) fun _ h => h.elim
          have HZo := Lib.hid (own_below HO.out hZw)
          have HZb : Hid (Below w.heap.size w Z) := HB.out.trans (hZw.mono HB.out.size)
          have s0 := cell_at (j := 0) hZs rfl
          have s1 := cell_at (j := 1) hZs rfl
          have s2 := cell_at (j := 2) hZs rfl
          have s3 := cell_at (j := 3) hZs rfl
          clear hZ hZs hWZ hZw HX1 HX1s HY HYs HYm HYB HO HB
          go_wp2_with (at_builtin; refine wpList_append_own _ rfl (.tmp 83) (.tmp 85) 61 rfl w.heap.size 65 i65 (.agg #[.int .i64 0, .int .i64 0, .bool false, .bool false]) 4 24 Try.underlying61 HI.out.1 HI.out.2.1 HI.out.2.2.1 HI.out.2.2.2 rfl (by decide) _ _ _ rfl (HZo.out.alloc _) ⟨Z.heap.size, 0, none⟩ 1 1 (Sn.cells ⟨0, 0, false, false⟩) rfl rfl (sn_cells4 _ _) (sn_one _) (by have := HML.out; unfold maxLen; omega) (by have := HML.out; omega) (by have := HZb.out.size; simp; omega) ?_)
          intro v2 w5 hown2 hgrow2 _
          have hB5 := below_grown (HZb.out.alloc HZb.out.size (.cells (Sn.cells ⟨0, 0, false, false⟩).toArray 65)) HZo.out (Nat.le_refl _) (Nat.le_refl _) hgrow2
          have HFIN := Lib.hid (And.intro hown2 hB5)
          clear hown2 hgrow2 hB5 s0 s1 s2 s3 HZo HZb
          go_wp2_with fail
          go_roundg (gk - 1)
          case measure => omega
          case rel =>
            obtain ⟨q1, q2, q3, q4⟩ := walk_next HS.out HR.out HXL.out (by omega) HIX.out HKK.out HT.out
            refine ⟨j + 1, _, _, _, _, rfl, by omega, rfl, rfl, rfl, q4, q1, q2, q3, ?_, HFIN.out.2⟩
            simpa [List.flatMap_append, List.flatMap_cons, List.flatMap_nil] using HFIN.out.1
        · have dLp : decide ((0 : Int) < (L : Int)) = false := by simp; omega
          have HT : Hid (Mov.tell xs idx ⟨3, m⟩ = ⟨0, 0, false, b⟩ ∧ mvTo xs idx 3 m = idx ∧ isDone idx L = b) := tell_none HXL.out hLp (by decide) HBD.out
          go_upto_region 29 with (fail)
          have hX1 : But (· = sb) Y Y := But.refl _ Y
          have hX1s := HYs.out
          have HX1 := Lib.hid hX1
          have HX1s := Lib.hid hX1s
          clear hX1 hX1s
          have x3 := cell_at (j := 3) HX1s.out rfl
          have g3 : Y.frozen? ⟨sb, 3, none⟩ = false := frozen_of_row _ _ _ _ _ HX1s.out
          go_upto_region 30 with (fail)
          have hZ : But (· = sb) Y (Y.setCell ⟨sb, 3, none⟩ (.bool b)) := HX1.out.setCell (p := ⟨sb, 3, none⟩) (.inl rfl) _
          have hZs := set_at65 3 (.bool b) HX1s.out rfl
          clear x3 g3 m0 m1
          generalize Y.setCell ⟨sb, 3, none⟩ (.bool b) = Z at hZ hZs ⊢
          have hWZ : But (fun _ => False) wr Z := ((HY.out.wider (S' := (· = sb)) fun _ _ h => h.elim).trans hZ).wider fun k hk h => by have := HsB.out; have h' : k = sb := h; omega
          have hZw : Below wr.heap.size wr Z := hWZ.below (Nat.le_refl _) fun _ h => h.elim
          have HZo := Lib.hid (own_below HO.out hZw)
          have HZb : Hid (Below w.heap.size w Z) := HB.out.trans (hZw.mono HB.out.size)
          have s0 := cell_at (j := 0) hZs rfl
          have s1 := cell_at (j := 1) hZs rfl
          have s2 := cell_at (j := 2) hZs rfl
          have s3 := cell_at (j := 3) hZs rfl
          clear hZ hZs hWZ hZw HX1 HX1s HY HYs HYm HYB HO HB
          go_wp2_with (at_builtin; refine wpList_append_own _ rfl (.tmp 83) (.tmp 85) 61 rfl w.heap.size 65 i65 (.agg #[.int .i64 0, .int .i64 0, .bool false, .bool false]) 4 24 Try.underlying61 HI.out.1 HI.out.2.1 HI.out.2.2.1 HI.out.2.2.2 rfl (by decide) _ _ _ rfl (HZo.out.alloc _) ⟨Z.heap.size, 0, none⟩ 1 1 (Sn.cells ⟨0, 0, false, b⟩) rfl rfl (sn_cells4 _ _) (sn_one _) (by have := HML.out; unfold maxLen; omega) (by have := HML.out; omega) (by have := HZb.out.size; simp; omega) ?_)
          intro v2 w5 hown2 hgrow2 _
          have hB5 := below_grown (HZb.out.alloc HZb.out.size (.cells (Sn.cells ⟨0, 0, false, b⟩).toArray 65)) HZo.out (Nat.le_refl _) (Nat.le_refl _) hgrow2
          have HFIN := Lib.hid (And.intro hown2 hB5)
          clear hown2 hgrow2 hB5 s0 s1 s2 s3 HZo HZb
          go_wp2_with fail
          go_roundg (gk - 1)
          case measure => omega
          case rel =>
            obtain ⟨q1, q2, q3, q4⟩ := walk_next HS.out HR.out HXL.out (by omega) HIX.out HKK.out HT.out
            refine ⟨j + 1, _, _, _, _, rfl, by omega, rfl, rfl, rfl, q4, q1, q2, q3, ?_, HFIN.out.2⟩
            simpa [List.flatMap_append, List.flatMap_cons, List.flatMap_nil] using HFIN.out.1
      · subst hk
        have m0 : Y.cell? ⟨mb, 0, none⟩ = some (.int .u8 4) := cell_at (j := 0) HYm.out rfl
        by_cases hm0 : m < 0
        · have d1 : decide (m < 0) = true := by simp; omega
          have HT : Hid (Mov.tell xs idx ⟨4, m⟩ = ⟨0, 0, true, b⟩ ∧ mvTo xs idx 4 m = idx ∧ isDone idx L = b) := tell_bad HXL.out (by omega) HBD.out
          have x0 := cell_at (j := 2) HYs.out rfl
          have g0 : Y.frozen? ⟨sb, 2, none⟩ = false := frozen_of_row _ _ _ _ _ HYs.out
          go_upto_region 29 with (fail)
          have hX1 : But (· = sb) Y (Y.setCell ⟨sb, 2, none⟩ (.bool true)) := (But.refl (· = sb) Y).setCell (p := ⟨sb, 2, none⟩) (.inl rfl) _
          have hX1s := set_at65 2 (.bool true) HYs.out rfl
          clear x0 g0
          generalize Y.setCell ⟨sb, 2, none⟩ (.bool true) = X1 at hX1 hX1s ⊢
          have HX1 := Lib.hid hX1
          have HX1s := Lib.hid hX1s
          clear hX1 hX1s
          have x3 := cell_at (j := 3) HX1s.out rfl
          have g3 : X1.frozen? ⟨sb, 3, none⟩ = false := frozen_of_row _ _ _ _ _ HX1s.out
          go_upto_region 30 with (fail)
          have hZ : But (· = sb) Y (X1.setCell ⟨sb, 3, none⟩ (.bool b)) := HX1.out.setCell (p := ⟨sb, 3, none⟩) (.inl rfl) _
          have hZs := set_at65 3 (.bool b) HX1s.out rfl
          clear x3 g3 m0 m1
          generalize X1.setCell ⟨sb, 3, none⟩ (.bool b) = Z at hZ hZs ⊢
          have hWZ : But (fun _ => False) wr Z := ((HY.out.wider (S' := (· = sb)) fun _ _ h => h.elim).trans hZ).wider fun k hk h => by have := HsB.out; have h' : k = sb := h; omega
          have hZw : Below wr.heap.size wr Z := hWZ.below (Nat.le_refl _) fun _ h => h.elim
          have HZo := Lib.hid (own_below HO.out hZw)
          have HZb : Hid (Below w.heap.size w Z) := HB.out.trans (hZw.mono HB.out.size)
          have s0 := cell_at (j := 0) hZs rfl
          have s1 := cell_at (j := 1) hZs rfl
          have s2 := cell_at (j := 2) hZs rfl
          have s3 := cell_at (j := 3) hZs rfl
          clear hZ hZs hWZ hZw HX1 HX1s HY HYs HYm HYB HO HB
          go_wp2_with (at_builtin; refine wpList_append_own _ rfl (.tmp 83) (.tmp 85) 61 rfl w.heap.size 65 i65 (.agg #[.int .i64 0, .int .i64 0, .bool false, .bool false]) 4 24 Try.underlying61 HI.out.1 HI.out.2.1 HI.out.2.2.1 HI.out.2.2.2 rfl (by decide) _ _ _ rfl (HZo.out.alloc _) ⟨Z.heap.size, 0, none⟩ 1 1 (Sn.cells ⟨0, 0, true, b⟩) rfl rfl (sn_cells4 _ _) (sn_one _) (by have := HML.out; unfold maxLen; omega) (by have := HML.out; omega) (by have := HZb.out.size; simp; omega) ?_)
          intro v2 w5 hown2 hgrow2 _
          have hB5 := below_grown (HZb.out.alloc HZb.out.size (.cells (Sn.cells ⟨0, 0, true, b⟩).toArray 65)) HZo.out (Nat.le_refl _) (Nat.le_refl _) hgrow2
          have HFIN := Lib.hid (And.intro hown2 hB5)
          clear hown2 hgrow2 hB5 s0 s1 s2 s3 HZo HZb
          go_wp2_with fail
          go_roundg (gk - 1)
          case measure => omega
          case rel =>
            obtain ⟨q1, q2, q3, q4⟩ := walk_next HS.out HR.out HXL.out (by omega) HIX.out HKK.out HT.out
            refine ⟨j + 1, _, _, _, _, rfl, by omega, rfl, rfl, rfl, q4, q1, q2, q3, ?_, HFIN.out.2⟩
            simpa [List.flatMap_append, List.flatMap_cons, List.flatMap_nil] using HFIN.out.1
        · obtain ⟨mi, rfl⟩ : ∃ mi : Nat, m = mi := ⟨m.toNat, by omega⟩
          by_cases hmL : mi < L
          · have hm2 : ¬ L ≤ mi := by omega
            have HT : Hid (Mov.tell xs idx ⟨4, (mi : Int)⟩ = ⟨0, 0, false, false⟩ ∧ mvTo xs idx 4 (mi : Int) = (mi : Int) ∧ isDone (mi : Int) L = false) := tell_seek HXL.out hmL
            go_upto_region 29 with (fail)
            have hX1 : But (· = sb) Y Y := But.refl _ Y
            have hX1s := HYs.out
            have HX1 := Lib.hid hX1
            have HX1s := Lib.hid hX1s
            clear hX1 hX1s
            have x3 := cell_at (j := 3) HX1s.out rfl
            have g3 : Y.frozen? ⟨sb, 3, none⟩ = false := frozen_of_row _ _ _ _ _ HX1s.out
            go_upto_region 30 with (fail)
            have hZ : But (· = sb) Y (Y.setCell ⟨sb, 3, none⟩ (.bool false)) := HX1.out.setCell (p := ⟨sb, 3, none⟩) (.inl rfl) _
            have hZs := set_at65 3 (.bool false) HX1s.out rfl
            clear x3 g3 m0 m1
            generalize Y.setCell ⟨sb, 3, none⟩ (.bool false) = Z at hZ hZs ⊢
            have hWZ : But (fun _ => False) wr Z := ((HY.out.wider (S' := (· = sb)) fun _ _ h => h.elim).trans hZ).wider fun k hk h => by have := HsB.out; have h' : k = sb := h; omega
            have hZw : Below wr.heap.size wr Z := hWZ.below (Nat.le_refl _) fun _ h => h.elim
            have HZo := Lib.hid (own_below HO.out hZw)
            have HZb : Hid (Below w.heap.size w Z) := HB.out.trans (hZw.mono HB.out.size)
            have s0 := cell_at (j := 0) hZs rfl
            have s1 := cell_at (j := 1) hZs rfl
            have s2 := cell_at (j := 2) hZs rfl
            have s3 := cell_at (j := 3) hZs rfl
            clear hZ hZs hWZ hZw HX1 HX1s HY HYs HYm HYB HO HB
            go_wp2_with (at_builtin; refine wpList_append_own _ rfl (.tmp 83) (.tmp 85) 61 rfl w.heap.size 65 i65 (.agg #[.int .i64 0, .int .i64 0, .bool false, .bool false]) 4 24 Try.underlying61 HI.out.1 HI.out.2.1 HI.out.2.2.1 HI.out.2.2.2 rfl (by decide) _ _ _ rfl (HZo.out.alloc _) ⟨Z.heap.size, 0, none⟩ 1 1 (Sn.cells ⟨0, 0, false, false⟩) rfl rfl (sn_cells4 _ _) (sn_one _) (by have := HML.out; unfold maxLen; omega) (by have := HML.out; omega) (by have := HZb.out.size; simp; omega) ?_)
            intro v2 w5 hown2 hgrow2 _
            have hB5 := below_grown (HZb.out.alloc HZb.out.size (.cells (Sn.cells ⟨0, 0, false, false⟩).toArray 65)) HZo.out (Nat.le_refl _) (Nat.le_refl _) hgrow2
            have HFIN := Lib.hid (And.intro hown2 hB5)
            clear hown2 hgrow2 hB5 s0 s1 s2 s3 HZo HZb
            go_wp2_with fail
            go_roundg (gk - 1)
            case measure => omega
            case rel =>
              obtain ⟨q1, q2, q3, q4⟩ := walk_next HS.out HR.out HXL.out (by omega) HIX.out HKK.out HT.out
              refine ⟨j + 1, _, _, _, _, rfl, by omega, rfl, rfl, rfl, q4, q1, q2, q3, ?_, HFIN.out.2⟩
              simpa [List.flatMap_append, List.flatMap_cons, List.flatMap_nil] using HFIN.out.1
          · have hm2 : L ≤ mi := by omega
            have HT : Hid (Mov.tell xs idx ⟨4, (mi : Int)⟩ = ⟨0, 0, true, b⟩ ∧ mvTo xs idx 4 (mi : Int) = idx ∧ isDone idx L = b) := tell_bad HXL.out (by omega) HBD.out
            have x0 := cell_at (j := 2) HYs.out rfl
            have g0 : Y.frozen? ⟨sb, 2, none⟩ = false := frozen_of_row _ _ _ _ _ HYs.out
            go_upto_region 29 with (fail)
            have hX1 : But (· = sb) Y (Y.setCell ⟨sb, 2, none⟩ (.bool true)) := (But.refl (· = sb) Y).setCell (p := ⟨sb, 2, none⟩) (.inl rfl) _
            have hX1s := set_at65 2 (.bool true) HYs.out rfl
            clear x0 g0
            generalize Y.setCell ⟨sb, 2, none⟩ (.bool true) = X1 at hX1 hX1s ⊢
            have HX1 := Lib.hid hX1
            have HX1s := Lib.hid hX1s
            clear hX1 hX1s
            have x3 := cell_at (j := 3) HX1s.out rfl
            have g3 : X1.frozen? ⟨sb, 3, none⟩ = false := frozen_of_row _ _ _ _ _ HX1s.out
            go_upto_region 30 with (fail)
            have hZ : But (· = sb) Y (X1.setCell ⟨sb, 3, none⟩ (.bool b)) := HX1.out.setCell (p := ⟨sb, 3, none⟩) (.inl rfl) _
            have hZs := set_at65 3 (.bool b) HX1s.out rfl
            clear x3 g3 m0 m1
            generalize X1.setCell ⟨sb, 3, none⟩ (.bool b) = Z at hZ hZs ⊢
            have hWZ : But (fun _ => False) wr Z := ((HY.out.wider (S' := (· = sb)) fun _ _ h => h.elim).trans hZ).wider fun k hk h => by have := HsB.out; have h' : k = sb := h; omega
            have hZw : Below wr.heap.size wr Z := hWZ.below (Nat.le_refl _) fun _ h => h.elim
            have HZo := Lib.hid (own_below HO.out hZw)
            have HZb : Hid (Below w.heap.size w Z) := HB.out.trans (hZw.mono HB.out.size)
            have s0 := cell_at (j := 0) hZs rfl
            have s1 := cell_at (j := 1) hZs rfl
            have s2 := cell_at (j := 2) hZs rfl
            have s3 := cell_at (j := 3) hZs rfl
            clear hZ hZs hWZ hZw HX1 HX1s HY HYs HYm HYB HO HB
            go_wp2_with (at_builtin; refine wpList_append_own _ rfl (.tmp 83) (.tmp 85) 61 rfl w.heap.size 65 i65 (.agg #[.int .i64 0, .int .i64 0, .bool false, .bool false]) 4 24 Try.underlying61 HI.out.1 HI.out.2.1 HI.out.2.2.1 HI.out.2.2.2 rfl (by decide) _ _ _ rfl (HZo.out.alloc _) ⟨Z.heap.size, 0, none⟩ 1 1 (Sn.cells ⟨0, 0, true, b⟩) rfl rfl (sn_cells4 _ _) (sn_one _) (by have := HML.out; unfold maxLen; omega) (by have := HML.out; omega) (by have := HZb.out.size; simp; omega) ?_)
            intro v2 w5 hown2 hgrow2 _
            have hB5 := below_grown (HZb.out.alloc HZb.out.size (.cells (Sn.cells ⟨0, 0, true, b⟩).toArray 65)) HZo.out (Nat.le_refl _) (Nat.le_refl _) hgrow2
            have HFIN := Lib.hid (And.intro hown2 hB5)
            clear hown2 hgrow2 hB5 s0 s1 s2 s3 HZo HZb
            go_wp2_with fail
            go_roundg (gk - 1)
            case measure => omega
            case rel =>
              obtain ⟨q1, q2, q3, q4⟩ := walk_next HS.out HR.out HXL.out (by omega) HIX.out HKK.out HT.out
              refine ⟨j + 1, _, _, _, _, rfl, by omega, rfl, rfl, rfl, q4, q1, q2, q3, ?_, HFIN.out.2⟩
              simpa [List.flatMap_append, List.flatMap_cons, List.flatMap_nil] using HFIN.out.1
      · have m0 : Y.cell? ⟨mb, 0, none⟩ = some (.int .u8 (k : Int)) := cell_at (j := 0) HYm.out rfl
        have z0 : ((k : Int) == 0) = false := by simp; omega
        have z1 : ((k : Int) == 1) = false := by simp; omega
        have z2 : ((k : Int) == 2) = false := by simp; omega
        have z3 : ((k : Int) == 3) = false := by simp; omega
        have z4 : ((k : Int) == 4) = false := by simp; omega
        have y0 : ¬ k = 0 := by omega
        have y1 : ¬ k = 1 := by omega
        have y2 : ¬ k = 2 := by omega
        have y3 : ¬ k = 3 := by omega
        have y4 : ¬ k = 4 := by omega
        go_wp2_with fail
        refine bodyPost_ret (results_tmp2 rfl _ _ _) rfl ?_
        exact ⟨_, false, rfl, HYB.out, fun h => by cases h⟩
    · have h1 : decide ((j : Int) < (moves.length : Int)) = false := by simp; omega
      obtain rfl : j = moves.length := by omega
      go_wp2_with fail
      refine bodyPost_ret (results_tmp2 rfl _ _ _) rfl ?_
      have h2 := HKK.out
      have h3 := HR.out
      rw [List.take_length] at h2 h3
      refine ⟨_, true, rfl, HB.out, fun _ => ⟨h2, ?_⟩⟩
      rw [h3]
      exact HO.out

end Go.Proofs.Ytnahipfdnadccaa
