/- The law FnListWalk: its slice of moves; moveTo. Conditions of this file: none. -/
import Derived.Test.YtnahipfdnadccaaThrB
namespace Go.Proofs.Ytnahipfdnadccaa
open Go.RowKit

/-- mv is a slice that reads moves -/
def MovV (w : World) (mv : Value) (moves : List Mov) : Prop :=
  ∃ (a : Option Addr) (cap : Nat), mv = .slice a moves.length cap ∧ ∀ j s, moves[j]? = some s → ∃ sb so, a = some ⟨sb, so, none⟩ ∧ ∀ i u, s.cells[i]? = some u → w.cell? ⟨sb, so + j * 2 + i, none⟩ = some u
theorem MovV.below {w w' : World} {mv : Value} {moves : List Mov} (h : MovV w mv moves) (b : Below w.heap.size w w') : MovV w' mv moves := by
  obtain ⟨a, cap, h1, h2⟩ := h
  refine ⟨a, cap, h1, fun j s hs => ?_⟩
  obtain ⟨sb, so, h3, h4⟩ := h2 j s hs
  exact ⟨sb, so, h3, fun i u hu => (b.cell (World.block_lt_of_cell? w _ (h4 i u hu))).trans (h4 i u hu)⟩

theorem info65 : (Try.prog.info? 65).map (fun i => (i.zero, i.size, i.bytes)) = some (some (.agg #[.int .i64 0, .int .i64 0, .bool false, .bool false]), 4, 24) := by kernel_rfl

theorem mov_cells2' {w : World} (s : Mov) (t : TypeId) : ∀ j u, s.cells[j]? = some u → (w.alloc (.cells s.cells.toArray t)).cell? ((⟨w.heap.size, 0, none⟩ : Addr).add j) = some u := fun j u hu => by
  rw [Addr.add_lit, Nat.zero_add]
  exact cell_at (heap_alloc_last w _) (by simpa using hu)

set_option maxRecDepth 100000 in
set_option maxHeartbeats 1600000 in
theorem moveTo_w (mv : Value) (moves : List Mov) (w : World) (hs : MovV w mv moves) (hl : moves.length ≤ 1000) :
    Calls Try.prog 27 #[mv] w fun e w' => ∃ v, e = .returned v ∧ MovW w' v moves ∧ Below w.heap.size w w' := by
  obtain ⟨i54, hi, hz0, hz1, hz2⟩ := info_parts info54
  have HI := Lib.hid (And.intro hi (And.intro hz0 (And.intro hz1 hz2)))
  clear hi hz0 hz1 hz2
  obtain ⟨sa, sc, rfl, hcells⟩ := hs
  have HCE := Lib.hid hcells
  have HL := Lib.hid hl
  clear hcells hl
  go_enter Try.func27, Try.ntmps27
  go_wp2_with fail
  go_loopg [3, 8] moves.length (fun k v i wr => ∃ j : Nat, j + k = moves.length ∧ i = .int .i64 (j : Int) ∧ wr.ownsRow w.heap.size 54 2 v j ((moves.take j).flatMap Mov.cells) ∧ Below w.heap.size w wr)
  case atStart => exact ⟨0, by omega, rfl, World.ownsRow_nil _ _ _ _, Below.refl _ _⟩
  case round =>
    obtain ⟨j, hjk, rfl, ho, hb⟩ := hrel
    have HO := Lib.hid ho
    have HB := Lib.hid hb
    clear ho hb
    have hw1 : IntKind.i64.wrap ((j : Int) + 1) = (j : Int) + 1 := by have := HL.out; rw [IntKind.wrap_i64]; omega
    by_cases hlt : j < moves.length
    · have h1 : decide ((j : Int) < (moves.length : Int)) = true := by simp; omega
      obtain ⟨⟨sk, sI⟩, hs⟩ : ∃ s, s = moves[j] := ⟨_, rfl⟩
      have hs' : moves[j]? = some ⟨sk, sI⟩ := by rw [List.getElem?_eq_getElem hlt, hs]
      obtain ⟨sb, so, rfl, hcells⟩ := HCE.out j _ hs'
      have hsb : sb < w.heap.size := World.block_lt_of_cell? w _ (hcells 0 _ rfl)
      have e0 : wr.cell? ⟨sb, so + j * 2, none⟩ = some (.int .u8 (sk : Int)) := (HB.out.cell hsb).trans (hcells 0 _ rfl)
      have e1 : wr.cell? ⟨sb, so + j * 2 + 1, none⟩ = some (.int .i64 sI) := (HB.out.cell hsb).trans (hcells 1 _ rfl)
      have HS := Lib.hid hs'
      clear hcells hs hs' hsb
      go_upto_region 5 with (fail)
      have hA : Below wr.heap.size wr (wr.alloc (.cells #[.int .u8 (sk : Int), .int .i64 sI] 85)) := (Below.refl _ wr).alloc (Nat.le_refl _) _
      have hbx := heap_alloc_last wr (.cells #[.int .u8 (sk : Int), .int .i64 sI] 85)
      have HOX := Lib.hid (own_below HO.out hA)
      have HBX := Lib.hid (HB.out.trans (hA.mono HB.out.size))
      generalize wr.heap.size = bx at hbx ⊢
      generalize wr.alloc (.cells #[.int .u8 (sk : Int), .int .i64 sI] 85) = X at hbx HOX HBX ⊢
      clear e0 e1 hA HO HB wr
      have s0 := cell_at (j := 0) hbx rfl
      have s1 := cell_at (j := 1) hbx rfl
      go_wp2_with (at_builtin; refine wpList_append_own _ rfl (.tmp 12) (.tmp 14) 52 rfl w.heap.size 54 i54 (.agg #[.int .u8 0, .int .i64 0]) 2 16 Try.underlying52 HI.out.1 HI.out.2.1 HI.out.2.2.1 HI.out.2.2.2 rfl (by decide) _ _ _ rfl (HOX.out.alloc _) ⟨X.heap.size, 0, none⟩ 1 1 (Mov.cells ⟨sk, sI⟩) rfl rfl (mov_cells2' _ _) (mov_one _) (by have := HL.out; unfold maxLen; omega) (by have := HL.out; omega) (by have := HBX.out.size; simp; omega) ?_)
      intro v2 w2 hown2 hgrow2 _
      have HO2 := Lib.hid hown2
      have HB2 := Lib.hid (below_grown (HBX.out.alloc HBX.out.size (.cells (Mov.cells ⟨sk, sI⟩).toArray 54)) HOX.out (Nat.le_refl _) (Nat.le_refl _) hgrow2)
      clear hown2 hgrow2
      go_wp2_with fail
      go_roundg (gk - 1)
      case measure => omega
      case rel =>
        refine ⟨j + 1, by omega, rfl, ?_, HB2.out⟩
        have e1 : moves.take (j + 1) = moves.take j ++ [⟨sk, sI⟩] := by
          rw [List.take_add_one, HS.out]; rfl
        rw [e1, List.flatMap_append]
        simpa [List.flatMap_cons, List.flatMap_nil] using HO2.out
    · have h1 : decide ((j : Int) < (moves.length : Int)) = false := by simp; omega
      obtain rfl : j = moves.length := by omega
      go_wp2_with fail
      go_ret
      refine ⟨_, rfl, ?_, HB.out⟩
      have h := HO.out
      rw [List.take_length] at h
      exact MovW.of_own h rfl

/-- the bounds of an iterator's place -/
theorem mvTo_bound {xs : List Int} {idx m : Int} {k : Nat} (hk : k ≤ 4) (h : -1 ≤ idx ∧ idx ≤ xs.length) : -1 ≤ mvTo xs idx k m ∧ mvTo xs idx k m ≤ xs.length := by
  obtain ⟨h0, h1⟩ := h
  have hk' : k = 0 ∨ k = 1 ∨ k = 2 ∨ k = 3 ∨ k = 4 := by omega
  have hd : isDone idx xs.length = true ∨ (isDone idx xs.length = false ∧ 0 ≤ idx ∧ idx < xs.length) := by
    cases e : isDone idx xs.length with
    | true => exact .inl rfl
    | false => simp [isDone] at e; exact .inr ⟨rfl, by omega, by omega⟩
  rcases hk' with rfl | rfl | rfl | rfl | rfl
  · rcases hd with hd | ⟨hd, h2, h3⟩ <;> simp [mvTo, hd] <;> omega
  · rcases hd with hd | ⟨hd, h2, h3⟩ <;> simp [mvTo, hd] <;> omega
  · simp only [mvTo]
    split
    · omega
    · simp
      split <;> omega
  · simp only [mvTo]
    simp
    split <;> omega
  · simp only [mvTo]
    simp [mvPan]
    split <;> omega
end Go.Proofs.Ytnahipfdnadccaa
