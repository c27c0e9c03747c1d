/- listTo; versionsOf of no steps; ListRun of any steps. Conditions of this file: none. -/
import Derived.Test.YtnahipfdnadccaaSpecV
namespace Go.Proofs.Ytnahipfdnadccaa
open Go.RowKit

theorem info29 : (Try.prog.info? 29).map (fun i => (i.zero, i.size, i.bytes)) = some (some (.agg #[.int .u8 0, .int .i64 0, .int .i64 0, .int .i64 0, .int .i64 0]), 5, 40) := by kernel_rfl

/-- sv is a slice of steps that lies somewhere, or it is nil and there is none -/
def StpW (w : World) (sv : Value) (steps : List Stp) : Prop :=
  (sv = .slice none 0 0 ∧ steps = []) ∨ ∃ sb so cap, sv = .slice (some ⟨sb, so, none⟩) steps.length cap ∧ sb < w.heap.size ∧ ∀ j s, steps[j]? = some s → ∀ i u, s.cells[i]? = some u → w.cell? ⟨sb, so + j * 5 + i, none⟩ = some u

theorem StpW.of_own {w : World} {B n : Nat} {v : Value} {steps : List Stp} (h : w.ownsRow B 29 5 v n (steps.flatMap Stp.cells)) (hn : n = steps.length) : StpW w v steps := by
  subst hn
  rcases h.2 with ⟨h1, h2⟩ | ⟨g, cap, cur, h1, h2, h3, _⟩
  · exact .inl ⟨h1, List.eq_nil_of_length_eq_zero h2⟩
  · refine .inr ⟨g, 0, cap, h1, lt_of_block h3, fun j s hs i u hu => ?_⟩
    have h4 := h.cells (g := g) (by rw [h1]; rfl) (j * 5 + i) u (flat_get steps j s hs i u hu)
    rw [Addr.add_lit] at h4
    rw [Nat.add_assoc]
    exact h4

theorem stp_cells5 {w : World} (s : Stp) (t : TypeId) : ∀ j u, s.cells[j]? = some u → (w.alloc (.cells s.cells.toArray t)).cell? ((⟨w.heap.size, 0, none⟩ : Addr).add j) = some u := fun j u hu => by
  rw [Addr.add_lit, Nat.zero_add]
  exact cell_at (heap_alloc_last w _) (by simpa using hu)
theorem stp_one (s : Stp) : ∀ u ∈ s.cells, u.oneCell' = true := fun u hu => by
  simp only [Stp.cells, List.mem_cons, List.not_mem_nil, or_false] at hu
  rcases hu with rfl | rfl | rfl | rfl | rfl <;> rfl

set_option maxRecDepth 100000 in
set_option maxHeartbeats 1600000 in
theorem listTo_w (sv : Value) (steps : List Stp) (w : World) (hs : StpV w sv steps) (hl : steps.length ≤ 1000) :
    Calls Try.prog 21 #[sv] w fun e w' => ∃ v, e = .returned v ∧ StpW w' v steps ∧ Below w.heap.size w w' := by
  obtain ⟨i29, hi, hz0, hz1, hz2⟩ := info_parts info29
  have HI := Lib.hid (And.intro hi (And.intro hz0 (And.intro hz1 hz2)))
  clear hi hz0 hz1 hz2
  obtain ⟨sa, sc, rfl, hcells⟩ := hs
  have HCE := Lib.hid hcells
  have HL := Lib.hid hl
  clear hcells hl
  go_enter Try.func21, Try.ntmps21
  go_wp2_with fail
  go_loopg [3, 8] steps.length (fun k v i wr => ∃ j : Nat, j + k = steps.length ∧ i = .int .i64 (j : Int) ∧ wr.ownsRow w.heap.size 29 5 v j ((steps.take j).flatMap Stp.cells) ∧ Below w.heap.size w wr)
  case atStart => exact ⟨0, by omega, rfl, World.ownsRow_nil _ _ _ _, Below.refl _ _⟩
  case round =>
    obtain ⟨j, hjk, rfl, ho, hb⟩ := hrel
    have HO := Lib.hid ho
    have HB := Lib.hid hb
    clear ho hb
    have hw1 : IntKind.i64.wrap ((j : Int) + 1) = (j : Int) + 1 := by have := HL.out; rw [IntKind.wrap_i64]; omega
    by_cases hlt : j < steps.length
    · have h1 : decide ((j : Int) < (steps.length : Int)) = true := by simp; omega
      obtain ⟨⟨sk, sF, sI, sE, sV⟩, hs⟩ : ∃ s, s = steps[j] := ⟨_, rfl⟩
      have hs' : steps[j]? = some ⟨sk, sF, sI, sE, sV⟩ := by rw [List.getElem?_eq_getElem hlt, hs]
      obtain ⟨sb, so, rfl, hcells⟩ := HCE.out j _ hs'
      have hsb : sb < w.heap.size := World.block_lt_of_cell? w _ (hcells 0 _ rfl)
      have e0 : wr.cell? ⟨sb, so + j * 5, none⟩ = some (.int .u8 (sk : Int)) := (HB.out.cell hsb).trans (hcells 0 _ rfl)
      have e1 : wr.cell? ⟨sb, so + j * 5 + 1, none⟩ = some (.int .i64 sF) := (HB.out.cell hsb).trans (hcells 1 _ rfl)
      have e2 : wr.cell? ⟨sb, so + j * 5 + 2, none⟩ = some (.int .i64 sI) := (HB.out.cell hsb).trans (hcells 2 _ rfl)
      have e3 : wr.cell? ⟨sb, so + j * 5 + 3, none⟩ = some (.int .i64 sE) := (HB.out.cell hsb).trans (hcells 3 _ rfl)
      have e4 : wr.cell? ⟨sb, so + j * 5 + 4, none⟩ = some (.int .i64 sV) := (HB.out.cell hsb).trans (hcells 4 _ rfl)
      have HS := Lib.hid hs'
      clear hcells hs hs' hsb
      go_upto_region 5 with (fail)
      have hA : Below wr.heap.size wr (wr.alloc (.cells #[.int .u8 (sk : Int), .int .i64 sF, .int .i64 sI, .int .i64 sE, .int .i64 sV] 42)) := (Below.refl _ wr).alloc (Nat.le_refl _) _
      have hbx := heap_alloc_last wr (.cells #[.int .u8 (sk : Int), .int .i64 sF, .int .i64 sI, .int .i64 sE, .int .i64 sV] 42)
      have HOX := Lib.hid (own_below HO.out hA)
      have HBX := Lib.hid (HB.out.trans (hA.mono HB.out.size))
      generalize wr.heap.size = bx at hbx ⊢
      generalize wr.alloc (.cells #[.int .u8 (sk : Int), .int .i64 sF, .int .i64 sI, .int .i64 sE, .int .i64 sV] 42) = X at hbx HOX HBX ⊢
      clear e0 e1 e2 e3 e4 hA HO HB wr
      have s0 := cell_at (j := 0) hbx rfl
      have s1 := cell_at (j := 1) hbx rfl
      have s2 := cell_at (j := 2) hbx rfl
      have s3 := cell_at (j := 3) hbx rfl
      have s4 := cell_at (j := 4) hbx rfl
      go_wp2_with (at_builtin; refine wpList_append_own _ rfl (.tmp 12) (.tmp 14) 30 rfl w.heap.size 29 i29 (.agg #[.int .u8 0, .int .i64 0, .int .i64 0, .int .i64 0, .int .i64 0]) 5 40 Try.underlying30 HI.out.1 HI.out.2.1 HI.out.2.2.1 HI.out.2.2.2 rfl (by decide) _ _ _ rfl (HOX.out.alloc _) ⟨X.heap.size, 0, none⟩ 1 1 (Stp.cells ⟨sk, sF, sI, sE, sV⟩) rfl rfl (stp_cells5 _ _) (stp_one _) (by have := HL.out; unfold maxLen; omega) (by have := HL.out; omega) (by have := HBX.out.size; simp; omega) ?_)
      intro v2 w2 hown2 hgrow2 _
      have HO2 := Lib.hid hown2
      have HB2 := Lib.hid (below_grown (HBX.out.alloc HBX.out.size (.cells (Stp.cells ⟨sk, sF, sI, sE, sV⟩).toArray 29)) HOX.out (Nat.le_refl _) (Nat.le_refl _) hgrow2)
      clear hown2 hgrow2
      go_wp2_with fail
      go_roundg (gk - 1)
      case measure => omega
      case rel =>
        refine ⟨j + 1, by omega, rfl, ?_, HB2.out⟩
        have e1 : steps.take (j + 1) = steps.take j ++ [⟨sk, sF, sI, sE, sV⟩] := by
          rw [List.take_add_one, HS.out]; rfl
        rw [e1, List.flatMap_append]
        simpa [List.flatMap_cons, List.flatMap_nil] using HO2.out
    · have h1 : decide ((j : Int) < (steps.length : Int)) = false := by simp; omega
      obtain rfl : j = steps.length := by omega
      go_wp2_with fail
      go_ret
      refine ⟨_, rfl, ?_, HB.out⟩
      have h := HO.out
      rw [List.take_length] at h
      exact StpW.of_own h rfl

set_option maxRecDepth 100000 in
set_option maxHeartbeats 1600000 in
theorem vers_nil (w : World) (v0 : Value) (n0 : Nat) (xs0 : List Int) (hnew : Calls Try.prog 55 #[v0] w (ListPost w n0 xs0)) :
    Calls Try.prog 29 #[v0, .slice none 0 0] w fun e w' => ∃ l p, e = .returned (.tuple #[l, p]) ∧ Vers w n0 [xs0] [] l p w' := by
  obtain ⟨i72, hi, hz0, hz1, hz2⟩ := info_parts info72
  have HI72 := Lib.hid (And.intro hi (And.intro hz0 (And.intro hz1 hz2)))
  clear hi hz0 hz1 hz2
  have HN := Lib.hid hnew
  clear hnew
  go_enter Try.func29, Try.ntmps29
  go_wp2_with fail
  refine HN.out.mono ?_
  rintro e w1 ⟨r, rfl, k1, k2⟩
  have K1 := Lib.hid k1
  have K2 := Lib.hid k2
  obtain ⟨rb, rd, ro, rfl, _⟩ := k1
  clear k2 HN
  go_wp2_with (at_builtin; refine wpList_append_own _ rfl (.tmp 11) (.tmp 14) 69 rfl w.heap.size 72 i72 (.pointer none) 1 8 Try.underlying69 HI72.out.1 HI72.out.2.1 HI72.out.2.2.1 HI72.out.2.2.2 rfl (by decide) _ _ _ rfl (World.ownsRow_nil _ _ _ _) ⟨w1.heap.size, 0, none⟩ 1 1 [.pointer (some ⟨rb, 0, none⟩)] rfl rfl (new_cell _ _ _) (one_oneCell rfl) (by unfold maxLen; omega) (by omega) (by have := K2.out.size; simp; omega) ?_)
  intro l0 w2 hown hgrow _
  have HV : Hid (Vers w n0 [xs0] [] l0 (.slice none 0 0) w2) := by
    have hA : Below w.heap.size w (w1.alloc (.cells #[.pointer (some ⟨rb, 0, none⟩)] 72)) := K2.out.alloc K2.out.size _
    have hb : Below w.heap.size w w2 := below_grown hA (World.ownsRow_nil w1 w.heap.size 72 1) (Nat.le_refl _) (Nat.le_refl _) hgrow
    refine ⟨hb, World.ownsRow_nil _ _ _ _, ?_⟩
    exact vers_push (vs := []) (ptrs := []) (grown_stay (World.ownsRow_nil _ w.heap.size 72 1) hgrow (by decide)) (fun i r h => by simp at h) rfl (K1.out.stay (Stay.of_below ((Below.refl _ w1).alloc (Nat.le_refl _) _))) hown
  clear hown hgrow K1 K2
  go_wp2_with fail
  go_loopg [4, 5, 18] 0 (fun k l p i wr => i = .int .i64 0 ∧ Vers w n0 [xs0] [] l p wr)
  case atStart => exact ⟨rfl, HV.out⟩
  case round =>
    clear HV
    obtain ⟨rfl, hV⟩ := hrel
    have HV := Lib.hid hV
    clear hV
    go_wp2_with fail
    refine bodyPost_ret (results_tmp2 rfl _ _ _) rfl ?_
    exact ⟨_, _, rfl, HV.out⟩

/-- ListRun of any steps -/
theorem listRun_s (w : World) (v0 : Value) (n0 : Nat) (xs0 : List Int) (steps : List Stp) (sv : Value) (hs : StpW w sv steps)
    (hnew : Calls Try.prog 55 #[v0] w (ListPost w n0 xs0)) (hn : n0 + 100000 * (steps.length + 1) < 33554431) (hG : Glob w) :
    Calls Try.prog 15 #[v0, sv] w fun e w' => ∃ l p, e = .returned (.tuple #[l, p]) ∧ Below w.heap.size w w' ∧ Outer w' l (versRun steps ([xs0], [])).1 ∧
      SlV w' p ((versRun steps ([xs0], [])).2.map Value.bool) := by
  rcases hs with ⟨rfl, rfl⟩ | ⟨sb, so, cap, rfl, h1, h2⟩
  · refine (run_w w v0 _ n0 [xs0] [] (by simp at hn; omega) (by simp) (vers_nil w v0 n0 xs0 hnew)).mono ?_
    rintro e w' ⟨l, p, rfl, h1, h2, h3⟩
    exact ⟨l, p, rfl, h1, h2.outer (by simp), SlV.of_own h3⟩
  · exact listRun_any w v0 n0 xs0 steps sb so cap h1 h2 hnew hn hG

end Go.Proofs.Ytnahipfdnadccaa
