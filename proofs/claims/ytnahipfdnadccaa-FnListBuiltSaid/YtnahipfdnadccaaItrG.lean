/- ListIterate: moves over a version of a list. Conditions of this file: none. -/
import Derived.Test.YtnahipfdnadccaaItrF
import Derived.Test.YtnahipfdnadccaaSpecT
namespace Go.Proofs.Ytnahipfdnadccaa
open Go.RowKit

/-- a move -/
structure Mov where
  k : Nat
  m : Int
def Mov.cells (a : Mov) : List Value := [.int .u8 (a.k : Int), .int .i64 a.m]
/-- what a move tells -/
structure Sn where
  ix : Int
  val : Int
  pan : Bool
  done : Bool
def Sn.cells (a : Sn) : List Value := [.int .i64 a.ix, .int .i64 a.val, .bool a.pan, .bool a.done]

def Mov.tell (xs : List Int) (idx : Int) (a : Mov) : Sn := ⟨mvIdx xs idx a.k, mvVal xs idx a.k, mvPan xs a.k a.m, isDone (mvTo xs idx a.k a.m) xs.length⟩
def mvs (xs : List Int) : List Mov → Int × List Sn → Int × List Sn
  | [], r => r
  | a :: rest, r => mvs xs rest (mvTo xs r.1 a.k a.m, r.2 ++ [a.tell xs r.1])
theorem mvs_snoc (xs : List Int) : ∀ (l : List Mov) (a : Mov) (r : Int × List Sn), mvs xs (l ++ [a]) r = (mvTo xs (mvs xs l r).1 a.k a.m, (mvs xs l r).2 ++ [a.tell xs (mvs xs l r).1])
  | [], a, r => rfl
  | b :: l, a, r => by simp only [List.cons_append, mvs]; exact mvs_snoc xs l a _
theorem mvs_len (xs : List Int) : ∀ (l : List Mov) (r : Int × List Sn), (mvs xs l r).2.length = l.length + r.2.length
  | [], r => by simp [mvs]
  | a :: l, r => by simp only [mvs]; rw [mvs_len xs l]; simp; omega

/-- mv is a slice of moves that lies somewhere, or it is nil and there is none -/
def MovW (w : World) (mv : Value) (moves : List Mov) : Prop :=
  (mv = .slice none 0 0 ∧ moves = []) ∨ ∃ sb so cap, mv = .slice (some ⟨sb, so, none⟩) moves.length cap ∧ sb < w.heap.size ∧ ∀ j s, moves[j]? = some s → ∀ i u, s.cells[i]? = some u → w.cell? ⟨sb, so + j * 2 + i, none⟩ = some u

theorem info59 : (Try.prog.info? 59).map (fun i => (i.zero, i.size, i.bytes)) = some (some (.agg #[.int .i64 0, .int .i64 0, .bool false, .bool false]), 4, 24) := by kernel_rfl

theorem sn_cells4 {w : World} (s : Sn) (t : TypeId) : ∀ j u, s.cells[j]? = some u → (w.alloc (.cells s.cells.toArray t)).cell? ((⟨w.heap.size, 0, none⟩ : Addr).add j) = some u := fun j u hu => by
  rw [Addr.add_lit, Nat.zero_add]
  exact cell_at (heap_alloc_last w _) (by simpa using hu)
theorem sn_one (s : Sn) : ∀ u ∈ s.cells, u.oneCell' = true := fun u hu => by
  simp only [Sn.cells, List.mem_cons, List.not_mem_nil, or_false] at hu
  rcases hu with rfl | rfl | rfl | rfl <;> rfl

theorem own_ne_block {w : World} {b size n ib : Nat} {e t : TypeId} {v : Value} {xs : List Value} {c : Array Value} {z : Nat × Nat} (h : w.ownsRow b e size v n xs) (hb : w.heap[ib]? = some (.cells c t z)) (he : e ≠ t) :
    v.ownBlock = none ∨ v.ownBlock ≠ some ib := by
  rcases h.2 with ⟨rfl, _⟩ | ⟨g, cap, cur, rfl, _, hg, _⟩
  · exact .inl rfl
  · right
    intro e1
    simp only [Value.ownBlock, Option.some.injEq] at e1
    subst e1
    rw [hg] at hb
    simp only [Option.some.injEq, Obj.cells.injEq] at hb
    exact he hb.2.1
theorem grown_but {w w' : World} {b : Nat} (h : But (· = b) w w') : w.grownBy w' (some b) := ⟨h.os, h.tape, h.output, h.size, fun k hk hne => h.block k hk fun e => hne (by rw [e])⟩

set_option maxRecDepth 100000 in
set_option maxHeartbeats 1600000 in
theorem iterate_w (w : World) (v0 sv mv : Value) (n ver : Nat) (vs : List (List Int)) (ps : List Bool) (xs : List Int) (moves : List Mov) (_hvs : vs.length ≤ 1000000) (hxs : vs[ver]? = some xs)
    (hm : MovW w mv moves) (hk : ∀ (j : Nat) (a : Mov), moves[j]? = some a → a.k ≤ 4) (hml : moves.length ≤ 1000000)
    (h : Calls Try.prog 29 #[v0, sv] w fun e w' => ∃ l p, e = .returned (.tuple #[l, p]) ∧ Vers w n vs ps l p w') :
    Calls Try.prog 25 #[v0, sv, .int .i64 (ver : Int), mv] w fun e w' => ∃ sn, e = .returned (.tuple #[.bool (isDone 0 xs.length), sn]) ∧ Below w.heap.size w w' ∧
      w'.ownsRow w.heap.size 59 4 sn moves.length ((mvs xs moves (0, [])).2.flatMap Sn.cells) := by
  obtain ⟨i59, hi, hz0, hz1, hz2⟩ := info_parts info59
  have HI := Lib.hid (And.intro hi (And.intro hz0 (And.intro hz1 hz2)))
  clear hi hz0 hz1 hz2
  have hver : ver < vs.length := (List.getElem?_eq_some_iff.1 hxs).1
  have HXS := Lib.hid hxs
  have HM := Lib.hid hm
  have HK := Lib.hid hk
  have HML := Lib.hid hml
  have HH := Lib.hid h
  have hml' : ∃ ma mc, mv = .slice ma moves.length mc := by
    rcases hm with ⟨h1, h2⟩ | ⟨sb, so, cap, h1, _⟩
    · exact ⟨none, 0, by rw [h1, h2]; rfl⟩
    · exact ⟨_, _, h1⟩
  obtain ⟨ma, mc, rfl⟩ := hml'
  have d1 : decide ((ver : Int) < 0) = false := by simp
  have d2 : decide ((vs.length : Int) ≤ (ver : Int)) = false := by simp; omega
  clear h hm hk hxs hml
  go_enter Try.func25, Try.ntmps25
  go_wp2_with fail
  refine HH.out.mono ?_
  rintro e w1 ⟨l, p, rfl, hV⟩
  obtain ⟨ptrs, hoL, hpl, hpI⟩ := hV.ownL
  obtain ⟨q, hq⟩ : ∃ q, ptrs[ver]? = some q := ⟨ptrs[ver]'(by rw [hpl]; exact hver), List.getElem?_eq_getElem _⟩
  obtain ⟨xs', hxs', hql⟩ := hpI ver q hq
  rw [HXS.out] at hxs'
  simp only [Option.some.injEq] at hxs'
  subst hxs'
  rcases hoL.2 with ⟨_, h0⟩ | ⟨g, lcap, cur, rfl, -, -, -, -, -, -⟩
  · omega
  have hcell : w1.cell? ⟨g, ver, none⟩ = some q := by
    have h1 := hoL.cells (g := g) rfl ver _ hq
    rw [Addr.add_lit, Nat.zero_add] at h1
    exact h1
  obtain ⟨lb, D, o, rfl, hla⟩ := hql
  have HLA := Lib.hid hla
  have HB1 := Lib.hid hV.below
  have hv32 : (ver : Int) < (vs.length : Int) := by omega
  clear hla hV hoL hpl hpI hq HH
  go_wp2_with fail
  refine (iterator_w lb n D o xs w1 HLA.out).mono ?_
  rintro e w2 ⟨ib, rfl, k1, k2, k3⟩
  have hB2 : Below w.heap.size w w2 := HB1.out.trans (k2.mono HB1.out.size)
  have hib : w.heap.size ≤ ib := Nat.le_trans HB1.out.size k1
  have HIT := Lib.hid k3
  have HB2 := Lib.hid hB2
  have HIB := Lib.hid hib
  clear k1 k2 k3 hB2 hib hcell
  go_upto_region 5 with (fail)
  have hA : Below w2.heap.size w2 (w2.alloc (Obj.cells #[Value.pointer (some { block := ib, off := 0 })] 79)) := (Below.refl _ w2).alloc (Nat.le_refl _) _
  have hvb := heap_alloc_last w2 (Obj.cells #[Value.pointer (some { block := ib, off := 0 })] 79)
  have hvbB : w.heap.size ≤ w2.heap.size := HB2.out.size
  have hA2 : Below w.heap.size w (w2.alloc (Obj.cells #[Value.pointer (some { block := ib, off := 0 })] 79)) := HB2.out.trans (hA.mono HB2.out.size)
  have hI3 := HIT.out.of_but (S := fun _ => False) (But.of_below hA) id (Stay.of_below hA)
  generalize w2.heap.size = vb at hvb hvbB ⊢
  generalize w2.alloc (Obj.cells #[Value.pointer (some { block := ib, off := 0 })] 79) = w3 at hvb hA2 hI3 ⊢
  have HV3 := Lib.hid hvb
  have v0c := cell_at (j := 0) hvb rfl
  obtain ⟨arr, dep, hIB, hL3, hrest⟩ := hI3
  have HI3 : Hid (Itr w3.drew ib lb n D o xs 0) := ⟨arr, dep, hIB, hL3.stay fun _ _ _ h _ => h, hrest.1, hrest.2.1, fun a b => ⟨(hrest.2.2 a b).1, (hrest.2.2 a b).2.1.keep (fun _ _ _ h _ => h) fun _ _ => rfl, (hrest.2.2 a b).2.2⟩⟩
  have HA2 := Lib.hid hA2.drew
  have HVB := Lib.hid hvbB
  have HCD := Lib.hid (done_w ib lb arr 0 dep n D o xs w3 hIB hL3)
  clear hvb hIB hL3 hrest hA2 hvbB hA HIT HLA HB1 HB2
  go_wp2_with fail
  refine HCD.out.mono ?_
  rintro e w4 ⟨rfl, rfl⟩
  clear HCD
  go_wp2_with fail
  go_loopg [9, 39] moves.length (fun k v i wr => ∃ j : Nat, j + k = moves.length ∧ i = .int .i64 (j : Int) ∧ wr.heap[vb]? = some (.cells #[.pointer (some ⟨ib, 0, none⟩)] 79 (0, 0)) ∧
    Itr wr ib lb n D o xs (mvs xs (moves.take j) (0, [])).1 ∧ wr.ownsRow w.heap.size 59 4 v j ((mvs xs (moves.take j) (0, [])).2.flatMap Sn.cells) ∧ Below w.heap.size w wr)
  case atStart => exact ⟨0, by omega, rfl, HV3.out, HI3.out, World.ownsRow_nil _ _ _ _, HA2.out⟩
  case round =>
    obtain ⟨j, hjk, rfl, hvb, hIt, hown, hbel⟩ := hrel
    have HVV := Lib.hid hvb
    have HIt := Lib.hid hIt
    have HO := Lib.hid hown
    have HB := Lib.hid hbel
    have hw1 : IntKind.i64.wrap ((j : Int) + 1) = (j : Int) + 1 := by have := HML.out; rw [IntKind.wrap_i64]; omega
    clear hvb hIt hown hbel v0c HA2 HI3 HV3
    by_cases hlt : j < moves.length
    · have h1 : decide ((j : Int) < (moves.length : Int)) = true := by simp; omega
      obtain ⟨⟨k, m⟩, hs⟩ : ∃ s, s = moves[j] := ⟨_, rfl⟩
      have hs' : moves[j]? = some ⟨k, m⟩ := by rw [List.getElem?_eq_getElem hlt, hs]
      have hk4 : Hid (k ≤ 4) := HK.out j _ hs'
      rcases HM.out with ⟨_, rfl⟩ | ⟨mb, so, cap, hmv, hmb, hcells⟩
      · simp at hlt
      simp only [Value.slice.injEq] at hmv
      obtain ⟨rfl, -, rfl⟩ := hmv
      have e0 : wr.cell? ⟨mb, so + j * 2, none⟩ = some (.int .u8 (k : Int)) := (HB.out.cell hmb).trans (hcells j _ hs' 0 _ rfl)
      have e1 : wr.cell? ⟨mb, so + j * 2 + 1, none⟩ = some (.int .i64 m) := (HB.out.cell hmb).trans (hcells j _ hs' 1 _ rfl)
      have HS := Lib.hid hs'
      obtain ⟨⟨idx, sn⟩, hR⟩ : ∃ R, R = mvs xs (moves.take j) (0, []) := ⟨_, rfl⟩
      have hsl : sn.length = j := by
        have := mvs_len xs (moves.take j) (0, [])
        rw [← hR] at this
        simpa [List.length_take, Nat.min_eq_left (Nat.le_of_lt hlt)] using this
      rw [← hR] at HIt HO
      have HR := Lib.hid hR
      have HSL := Lib.hid hsl
      clear hcells hs hs' hmb hR hsl
      simp only at HIt HO
      go_upto_region 10 with (fail)
      have hY : But (fun _ => False) wr ((wr.alloc (Obj.cells #[Value.int IntKind.u8 ↑k, Value.int IntKind.i64 m] 54)).alloc (Obj.cells #[Value.int IntKind.i64 0, Value.int IntKind.i64 0, Value.bool false, Value.bool false] 59)) := ((But.refl (fun _ => False) wr).alloc _).alloc _
      have hYm : ((wr.alloc (Obj.cells #[Value.int IntKind.u8 ↑k, Value.int IntKind.i64 m] 54)).alloc (Obj.cells #[Value.int IntKind.i64 0, Value.int IntKind.i64 0, Value.bool false, Value.bool false] 59)).heap[wr.heap.size]? = some (.cells #[.int .u8 (k : Int), .int .i64 m] 54 (0, 0)) :=
        ((But.refl (fun _ => False) _).alloc _).at (heap_alloc_last wr _) id
      have hYs : ((wr.alloc (Obj.cells #[Value.int IntKind.u8 ↑k, Value.int IntKind.i64 m] 54)).alloc (Obj.cells #[Value.int IntKind.i64 0, Value.int IntKind.i64 0, Value.bool false, Value.bool false] 59)).heap[wr.heap.size + 1]? = some (.cells #[.int .i64 0, .int .i64 0, .bool false, .bool false] 59 (0, 0)) := by
        have := heap_alloc_last (wr.alloc (Obj.cells #[Value.int IntKind.u8 ↑k, Value.int IntKind.i64 m] 54)) (Obj.cells #[Value.int IntKind.i64 0, Value.int IntKind.i64 0, Value.bool false, Value.bool false] 59)
        simpa using this
      have HsB : Hid (wr.heap.size ≤ wr.heap.size + 1) := Nat.le_succ _
      generalize wr.heap.size + 1 = sb at hYs HsB ⊢
      generalize wr.heap.size = mb2 at hYm ⊢
      generalize (wr.alloc (Obj.cells #[Value.int IntKind.u8 ↑k, Value.int IntKind.i64 m] 54)).alloc (Obj.cells #[Value.int IntKind.i64 0, Value.int IntKind.i64 0, Value.bool false, Value.bool false] 59) = Y at hY hYm hYs ⊢
      have hYst : Stay wr Y := hY.stay fun _ _ _ _ h => h.elim
      have HYI := Lib.hid (HIt.out.of_but hY id hYst)
      have HYv := Lib.hid (hY.at HVV.out id)
      have HY := Lib.hid hY
      have HYs := Lib.hid hYs
      have HYm := Lib.hid hYm
      clear e0 e1 hY hYm hYs hYst
      go_wp2_with fail
      refine (thrown_mv mb2 vb sb ib lb n D o xs idx m k hk4.out Y HYm.out HYv.out HYs.out HYI.out).mono ?_
      rintro e C ⟨rfl, c1, c2, c3⟩
      have C1 := Lib.hid c1
      have C2 := Lib.hid c2
      have C3 := Lib.hid c3
      have q2 := cell_at (j := 2) c2 rfl
      have f2 : C.frozen? ⟨sb, 2, none⟩ = false := frozen_of_row _ _ _ _ _ c2
      clear c1 c2 c3
      go_upto_region 11 with (fail)
      have hX : But (· = sb) C (C.setCell ⟨sb, 2, none⟩ (.bool (mvPan xs k m))) := (But.refl (· = sb) C).setCell (p := ⟨sb, 2, none⟩) (.inl rfl) _
      have hXs := heap_setCell_same C sb 2 _ 59 (.bool (mvPan xs k m)) C2.out
      clear q2 f2
      generalize C.setCell ⟨sb, 2, none⟩ (.bool (mvPan xs k m)) = X at hX hXs ⊢
      have hXs' : X.heap[sb]? = some (.cells #[.int .i64 (mvIdx xs idx k), .int .i64 (mvVal xs idx k), .bool (mvPan xs k m), .bool false] 59 (0, 0)) := by simpa using hXs
      have hnib : ¬ ib = sb := fun e => ne_of_ty hXs' (Itr.block (C1.out.of_but hX (fun e1 => ne_of_ty C2.out C1.out.block.choose_spec (by decide) e1.symm) (stay59 C2.out hX))).choose_spec (by decide) e.symm
      have hXI := C1.out.of_but hX hnib (stay59 C2.out hX)
      have hvs : ¬ vb = sb := ne_of_ty HYv.out HYs.out (by decide)
      have hvi : ¬ vb = ib := ne_of_ty HYv.out HYI.out.block.choose_spec (by decide)
      have hXv := hX.at (C3.out.at HYv.out (by rintro (h | h); exact hvi h; exact hvs h)) hvs
      have hXb : But (fun b => b = ib ∨ b = sb) Y X := C3.out.trans (hX.wider fun _ _ h => .inr h)
      have xv := cell_at (j := 0) hXv rfl
      have x3 := cell_at (j := 3) hXs' rfl
      have g3 : X.frozen? ⟨sb, 3, none⟩ = false := frozen_of_row _ _ _ _ _ hXs'
      have HXI := Lib.hid hXI
      have HXB := Lib.hid hXb
      have HXS' := Lib.hid hXs'
      have HXV := Lib.hid hXv
      have HNI := Lib.hid hnib
      have HVS := Lib.hid hvs
      obtain ⟨arr, dep, hIB, hL3, hrest⟩ := hXI
      have HCD := Lib.hid (done_w ib lb arr _ dep n D o xs X hIB hL3)
      clear hX hXs hXs' hnib hvs hvi hXv hXb hIB hL3 hrest C1 C2 C3 HYI HYv HYs HYm
      go_wp2_with fail
      refine HCD.out.mono ?_
      rintro e X2 ⟨rfl, rfl⟩
      clear HCD
      go_upto_region 12 with (fail)
      have hZ : But (· = sb) X (X.setCell ⟨sb, 3, none⟩ (.bool (isDone (mvTo xs idx k m) xs.length))).drew := ((But.refl (· = sb) X).setCell (p := ⟨sb, 3, none⟩) (.inl rfl) _).drew
      have hZs : (X.setCell ⟨sb, 3, none⟩ (.bool (isDone (mvTo xs idx k m) xs.length))).drew.heap[sb]? = some (.cells #[.int .i64 (mvIdx xs idx k), .int .i64 (mvVal xs idx k), .bool (mvPan xs k m), .bool (isDone (mvTo xs idx k m) xs.length)] 59 (0, 0)) := by
        show (X.setCell ⟨sb, 3, none⟩ (.bool (isDone (mvTo xs idx k m) xs.length))).heap[sb]? = _
        have := heap_setCell_same X sb 3 _ 59 (.bool (isDone (mvTo xs idx k m) xs.length)) HXS'.out
        simpa using this
      clear xv x3 g3
      have hst : Stay X (X.setCell ⟨sb, 3, none⟩ (.bool (isDone (mvTo xs idx k m) xs.length))).drew := stay59 HXS'.out hZ
      generalize (X.setCell ⟨sb, 3, none⟩ (.bool (isDone (mvTo xs idx k m) xs.length))).drew = Z at hZ hZs hst ⊢
      have hZI := HXI.out.of_but hZ HNI.out hst
      have hZv := hZ.at HXV.out HVS.out
      have hWZ : But (· = ib) wr Z := (((HY.out.wider (S' := fun b => b = ib ∨ b = sb) fun _ _ h => h.elim).trans HXB.out).trans (hZ.wider fun _ _ h => .inr h)).wider fun k hk h => by
        rcases h with h | h
        · exact h
        · have := HsB.out; omega
      have hZb : Below w.heap.size w Z := HB.out.trans (hWZ.below HB.out.size fun k h => by rw [h]; exact HIB.out)
      have hZo := HO.out.kept (grown_but hWZ) (own_ne_block HO.out HIt.out.block.choose_spec (by decide))
      have s0 := cell_at (j := 0) hZs rfl
      have s1 := cell_at (j := 1) hZs rfl
      have s2 := cell_at (j := 2) hZs rfl
      have s3 := cell_at (j := 3) hZs rfl
      have HZI := Lib.hid hZI
      have HZv := Lib.hid hZv
      have HZb := Lib.hid hZb
      have HZo := Lib.hid hZo
      clear hZ hZs hst hZI hZv hWZ hZb hZo HXI HXB HXS' HXV HY HO
      have HTL : Hid (Mov.tell xs idx ⟨k, m⟩ = ⟨mvIdx xs idx k, mvVal xs idx k, mvPan xs k m, isDone (mvTo xs idx k m) xs.length⟩) := rfl
      generalize isDone (mvTo xs idx k m) xs.length = dn at s3 HTL ⊢
      generalize mvIdx xs idx k = ix at s0 HTL ⊢
      generalize mvVal xs idx k = vl at s1 HTL ⊢
      generalize mvPan xs k m = pn at s2 HTL ⊢
      go_wp2_with (at_builtin; refine wpList_append_own _ rfl (.tmp 49) (.tmp 51) 55 rfl w.heap.size 59 i59 (.agg #[.int .i64 0, .int .i64 0, .bool false, .bool false]) 4 24 Try.underlying55 HI.out.1 HI.out.2.1 HI.out.2.2.1 HI.out.2.2.2 rfl (by decide) _ _ _ rfl (HZo.out.alloc _) ⟨Z.heap.size, 0, none⟩ 1 1 (Sn.cells ⟨ix, vl, pn, dn⟩) rfl rfl (sn_cells4 _ _) (sn_one _) (by have := HML.out; unfold maxLen; omega) (by have := HML.out; omega) (by have := HZb.out.size; simp; omega) ?_)
      intro v2 w5 hown2 hgrow2 _
      have hA5 : Below Z.heap.size Z (Z.alloc (.cells (Sn.cells ⟨ix, vl, pn, dn⟩).toArray 59)) := (Below.refl _ Z).alloc (Nat.le_refl _) _
      have hB5 := below_grown (HZb.out.alloc HZb.out.size (.cells (Sn.cells ⟨ix, vl, pn, dn⟩).toArray 59)) HZo.out (Nat.le_refl _) (Nat.le_refl _) hgrow2
      have hSt5 : Stay Z w5 := (Stay.of_below hA5).trans (grown_stay (HZo.out.alloc _) hgrow2 (by decide))
      have keepb : ∀ {b : Nat} {c : Array Value} {t : TypeId}, Z.heap[b]? = some (.cells c t (0, 0)) → (59 : TypeId) ≠ t → w5.heap[b]? = some (.cells c t (0, 0)) := by
        intro b c t hb ht
        have h1 := (But.of_below (S := fun _ => False) hA5).at hb id
        have h2 := own_ne_block (HZo.out.alloc (.cells (Sn.cells ⟨ix, vl, pn, dn⟩).toArray 59)) h1 ht
        have h3 := hgrow2.block b (lt_of_block h1) (by
          rcases h2 with h2 | h2
          · rw [h2]; simp
          · exact fun e => h2 e.symm)
        rw [h3]
        exact h1
      have hI5 : Itr w5 ib lb n D o xs (mvTo xs idx k m) := by
        obtain ⟨arr, dep, ⟨q1, q2⟩, q3, q4, q5, q6⟩ := HZI.out
        exact ⟨arr, dep, ⟨keepb q1 (by decide), q2⟩, q3.stay hSt5, q4, q5, fun a b => ⟨(q6 a b).1, (q6 a b).2.1.keep hSt5 fun _ _ => rfl, (q6 a b).2.2⟩⟩
      have HFIN := Lib.hid (And.intro (keepb HZv.out (by decide)) (And.intro hI5 (And.intro hown2 hB5)))
      clear hown2 hgrow2 hA5 hB5 hSt5 keepb hI5 s0 s1 s2 s3
      go_wp2_with fail
      go_roundg (gk - 1)
      case measure => omega
      case rel =>
        obtain ⟨f1, f2, f3, f4⟩ := HFIN.out
        refine ⟨j + 1, by omega, rfl, f1, ?_⟩
        have e1 : moves.take (j + 1) = moves.take j ++ [⟨k, m⟩] := by
          rw [List.take_add_one, HS.out]; rfl
        rw [e1, mvs_snoc, ← HR.out]
        refine ⟨f2, ?_, f4⟩
        simp only [HTL.out, List.flatMap_append, List.flatMap_cons, List.flatMap_nil, List.append_nil]
        exact f3
    · have h1 : decide ((j : Int) < (moves.length : Int)) = false := by simp; omega
      obtain rfl : j = moves.length := by omega
      go_wp2_with fail
      have h := HO.out
      rw [List.take_length] at h
      refine bodyPost_ret (results_tmp2 rfl _ _ _) rfl ?_
      exact ⟨_, rfl, HB.out, h⟩

end Go.Proofs.Ytnahipfdnadccaa
