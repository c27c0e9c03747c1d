/- A new branch over two nodes; a comparer; a copy of a map's head. -/
import Derived.Test.YtefigjdebakccaaBDel
namespace Go.Proofs.Ytefigjdebakccaa
open Go.RowKit

theorem as3_152 (a : Int) (W : World) : Sem.run Try.prog (Instr.typeAssert (Value.iface 3 (.int .i64 a)) 20 152 true) W = .ok (.tuple #[.int .i8 0, .bool false]) W := by kernel_rfl
theorem as3_153 (a : Int) (W : World) : Sem.run Try.prog (Instr.typeAssert (Value.iface 3 (.int .i64 a)) 20 153 true) W = .ok (.tuple #[.int .i16 0, .bool false]) W := by kernel_rfl
theorem as3_21 (a : Int) (W : World) : Sem.run Try.prog (Instr.typeAssert (Value.iface 3 (.int .i64 a)) 20 21 true) W = .ok (.tuple #[.int .i32 0, .bool false]) W := by kernel_rfl
theorem as3_2 (a : Int) (W : World) : Sem.run Try.prog (Instr.typeAssert (Value.iface 3 (.int .i64 a)) 20 2 true) W = .ok (.tuple #[.int .i64 0, .bool false]) W := by kernel_rfl
theorem as3_154 (a : Int) (W : World) : Sem.run Try.prog (Instr.typeAssert (Value.iface 3 (.int .i64 a)) 20 154 true) W = .ok (.tuple #[.int .u64 0, .bool false]) W := by kernel_rfl
theorem as3_5 (a : Int) (W : World) : Sem.run Try.prog (Instr.typeAssert (Value.iface 3 (.int .i64 a)) 20 5 true) W = .ok (.tuple #[.int .u8 0, .bool false]) W := by kernel_rfl
theorem as3_41 (a : Int) (W : World) : Sem.run Try.prog (Instr.typeAssert (Value.iface 3 (.int .i64 a)) 20 41 true) W = .ok (.tuple #[.int .u16 0, .bool false]) W := by kernel_rfl
theorem as3_155 (a : Int) (W : World) : Sem.run Try.prog (Instr.typeAssert (Value.iface 3 (.int .i64 a)) 20 155 true) W = .ok (.tuple #[.int .u32 0, .bool false]) W := by kernel_rfl
theorem as3_156 (a : Int) (W : World) : Sem.run Try.prog (Instr.typeAssert (Value.iface 3 (.int .i64 a)) 20 156 true) W = .ok (.tuple #[.int .u64 0, .bool false]) W := by kernel_rfl
theorem as3_12 (a : Int) (W : World) : Sem.run Try.prog (Instr.typeAssert (Value.iface 3 (.int .i64 a)) 20 12 true) W = .ok (.tuple #[.int .u64 0, .bool false]) W := by kernel_rfl
theorem as3_9 (a : Int) (W : World) : Sem.run Try.prog (Instr.typeAssert (Value.iface 3 (.int .i64 a)) 20 9 true) W = .ok (.tuple #[.string ⟨#[]⟩, .bool false]) W := by kernel_rfl
set_option maxRecDepth 100000 in
set_option maxHeartbeats 1600000 in
theorem newCmp_w (a : Int) (w : World) : Calls Try.prog 79 #[.int .i64 a] w fun e w' => ∃ p, e = .returned (.iface 157 (.pointer (some p))) ∧ Below w.heap.size w w' := by
  have t1 := as3 a
  have a152 := as3_152 a
  have a153 := as3_153 a
  have a21 := as3_21 a
  have a2 := as3_2 a
  have a154 := as3_154 a
  have a5 := as3_5 a
  have a41 := as3_41 a
  have a155 := as3_155 a
  have a156 := as3_156 a
  have a12 := as3_12 a
  have a9 := as3_9 a
  go_enter Try.func79, Try.ntmps79
  go_wp2_with fail
  go_ret
  exact ⟨_, rfl, (Below.refl _ _).alloc (Nat.le_refl _) _⟩

set_option maxRecDepth 100000 in
set_option maxHeartbeats 400000 in
theorem clone_w (b : Nat) (n : Int) (rt cv : Value) (w : World) (hr : rt = .nilIface ∨ ∃ ty p : Nat, rt = .iface ty (.pointer (some ⟨p, 0, none⟩))) (hc : cv = .nilIface ∨ ∃ ty v, cv = .iface ty v) (h : w.heap[b]? = some (.cells #[.int .i64 n, rt, cv] 122 (0, 0))) :
    Calls Try.prog 80 #[.pointer (some ⟨b, 0, none⟩)] w fun e w' => ∃ b' : Nat, e = .returned (.pointer (some ⟨b', 0, none⟩)) ∧ w.heap.size ≤ b' ∧ w'.heap[b']? = some (.cells #[.int .i64 n, rt, cv] 122 (0, 0)) ∧ Below w.heap.size w w' := by
  have h0 := cell_at (j := 0) h rfl
  have h1 := cell_at (j := 1) h rfl
  have h2 := cell_at (j := 2) h rfl
  have H := Lib.hid h
  clear h
  rcases hr with rfl | ⟨ty, p, rfl⟩ <;> rcases hc with rfl | ⟨ty2, v, rfl⟩
  all_goals
    go_enter Try.func80, Try.ntmps80
    go_wp2_with fail
    go_ret
    exact ⟨_, rfl, Nat.le_refl _, heap_alloc_last w _, (Below.refl _ _).alloc (Nat.le_refl _) _⟩

/-- the row behind j children -/
def rowJ (kids : List Kid) (Z : List Value) (j : Nat) : List Value := rcells (krow (kids.take j)) ++ Z.drop (j * 2)
theorem rowJ_len (kids : List Kid) (Z : List Value) (j : Nat) (hj : j ≤ kids.length) (hZ : Z.length = kids.length * 2) : (rowJ kids Z j).length = kids.length * 2 := by
  unfold rowJ
  rw [List.length_append, rcells_len, krow_len, List.length_take, Nat.min_eq_left hj, List.length_drop, hZ]
  omega
theorem rowJ_succ {kids : List Kid} {Z : List Value} {j : Nat} {kd : Kid} (hk : kids[j]? = some kd) (hZ : Z.length = kids.length * 2) : ∃ z0 z1, (rowJ kids Z j)[j * 2]? = some z0 ∧ (rowJ kids Z j)[j * 2 + 1]? = some z1 ∧
    ((rowJ kids Z j).toArray.setIfInBounds (j * 2) (.int .i64 (hd 0 kd.2))).setIfInBounds (j * 2 + 1) kd.1 = (rowJ kids Z (j + 1)).toArray := by
  have hjl := (List.getElem?_eq_some_iff.1 hk).1
  have hl1 : (rcells (krow (kids.take j))).length = j * 2 := by rw [rcells_len, krow_len, List.length_take, Nat.min_eq_left (by omega)]
  obtain ⟨z0, z1, Z2, hz⟩ : ∃ z0 z1 Z2, Z.drop (j * 2) = z0 :: z1 :: Z2 := by
    have hl : 2 ≤ (Z.drop (j * 2)).length := by rw [List.length_drop, hZ]; omega
    match h : Z.drop (j * 2), hl with
    | z0 :: z1 :: Z2, _ => exact ⟨z0, z1, Z2, rfl⟩
  have hz2 : Z.drop ((j + 1) * 2) = Z2 := by
    have := congrArg (List.drop 2) hz
    rw [List.drop_drop] at this
    rw [show (j + 1) * 2 = j * 2 + 2 by omega, this]
    rfl
  refine ⟨z0, z1, ?_, ?_, ?_⟩
  · unfold rowJ
    rw [hz, List.getElem?_append_right (by omega), hl1, Nat.sub_self]; rfl
  · unfold rowJ
    rw [hz, List.getElem?_append_right (by omega), hl1, show j * 2 + 1 - j * 2 = 1 by omega]; rfl
  · unfold rowJ
    rw [hz, hz2, row_mid hl1]
    congr 1
    have : kids.take (j + 1) = kids.take j ++ [kd] := by rw [List.take_add_one, hk]; rfl
    rw [this]
    unfold krow
    rw [List.map_append, rcells_append, List.append_assoc]
    rfl

set_option maxRecDepth 100000 in
set_option maxHeartbeats 1600000 in
theorem newBr_w (kids : List Kid) (r g : Nat) (w : World) (hk : ∀ kd ∈ kids, SN w r kd.1 kd.2) (h0 : kids ≠ []) (hl : kids.length ≤ 32) (h : ∀ (i : Nat) (kd : Kid), kids[i]? = some kd → w.cell? ⟨g, i, none⟩ = some kd.1) :
    Calls Try.prog 81 #[.slice (some ⟨g, 0, none⟩) kids.length kids.length] w fun e w' => ∃ b : Nat, e = .returned (.pointer (some ⟨b, 0, none⟩)) ∧ Cnt w' (r + 1) kids.length (.iface 147 (.pointer (some ⟨b, 0, none⟩))) (ess kids).flatten ∧ Below w.heap.size w w' := by
  have HK := Lib.hid hk
  have H := Lib.hid h
  have H0 := Lib.hid h0
  clear hk h h0
  obtain ⟨Z, hZl, hmk⟩ := make161 w kids.length (by omega)
  have HZL := Lib.hid hZl
  clear hZl
  go_enter Try.func81, Try.ntmps81
  go_upto_region 2 with (fail)
  have HB : Hid (Below w.heap.size w (w.alloc (Obj.cells Z.toArray 163))) := (Below.refl _ _).alloc (Nat.le_refl _) _
  have HR : Hid ((w.alloc (Obj.cells Z.toArray 163)).heap[w.heap.size]? = some (.cells (rowJ kids Z 0).toArray 163 (0, 0))) := heap_alloc_last w _
  clear hmk
  generalize w.alloc (Obj.cells Z.toArray 163) = W at HB HR ⊢
  obtain ⟨b, hb⟩ : ∃ b, b = w.heap.size := ⟨_, rfl⟩
  rw [← hb] at HR ⊢
  have HBB := Lib.hid hb
  clear hb
  go_wp2_with fail
  go_loopg [11] kids.length (fun k i wr => ∃ j : Nat, j + k = kids.length ∧ i = .int .i64 (j : Int) ∧ Below w.heap.size w wr ∧ wr.heap[b]? = some (.cells (rowJ kids Z j).toArray 163 (0, 0)))
  case atStart => exact ⟨0, by omega, rfl, HB.out, HR.out⟩
  case round =>
    obtain ⟨j, hjk, rfl, hbw, hrw⟩ := hrel
    have HBW := Lib.hid hbw
    have HRW := Lib.hid hrw
    clear hbw hrw HB HR
    have hw1 : IntKind.i64.wrap ((j : Int) + 1) = (j : Int) + 1 := by rw [IntKind.wrap_i64]; omega
    by_cases hlt : j < kids.length
    · have h1 : decide ((j : Int) < (kids.length : Int)) = true := by simp; omega
      obtain ⟨kd, hkd⟩ : ∃ kd, kids[j]? = some kd := ⟨_, List.getElem?_eq_getElem hlt⟩
      have HKD := Lib.hid hkd
      have hs := HK.out kd (List.mem_of_getElem? hkd)
      obtain ⟨v, es⟩ := kd
      obtain ⟨ty, p, hv⟩ := hs.ptr
      simp only at hv
      subst hv
      have hc := bcell HBW.out (H.out j _ hkd)
      simp only at hc
      obtain ⟨ty2, p2, fid, e1, ⟨k1, k2, k3⟩, e3⟩ := min_any (hs.stay (Stay.of_below HBW.out))
      simp only [Value.iface.injEq, Value.pointer.injEq, Option.some.injEq, Addr.mk.injEq, and_true] at e1
      obtain ⟨rfl, rfl⟩ := e1
      have HMIN := Lib.hid e3
      obtain ⟨z0, z1, r0, r1, r2⟩ := rowJ_succ hkd HZL.out
      have HR2 := Lib.hid r2
      have c0 := cell_at (j := j * 2) HRW.out (by rw [List.getElem?_toArray]; exact r0)
      have c1 := cell_at (j := j * 2 + 1) HRW.out (by rw [List.getElem?_toArray]; exact r1)
      have f0 : wr.frozen? ⟨b, j * 2, none⟩ = false := frozen_of_row _ _ _ _ _ HRW.out
      have f1 : wr.frozen? ⟨b, j * 2 + 1, none⟩ = false := frozen_of_row _ _ _ _ _ HRW.out
      clear hkd hs e3 r0 r1 r2
      go_wp2_with fail
      refine HMIN.out.mono ?_
      rintro e w' ⟨rfl, rfl⟩
      go_wp2_with fail
      go_roundg (gk - 1)
      case measure => omega
      case rel =>
        refine ⟨j + 1, by omega, by go_num, (HBW.out.setCell (by rw [HBB.out]; exact Nat.le_refl _) _).setCell (by rw [HBB.out]; exact Nat.le_refl _) _, ?_⟩
        rw [← HR2.out]
        exact heap_setCell_same _ _ _ _ _ _ (heap_setCell_same _ _ _ _ _ _ HRW.out)
    · have h1 : decide ((j : Int) < (kids.length : Int)) = false := by simp; omega
      obtain rfl : kids.length = j := by omega
      go_wp2_with fail
      go_ret
      have hst : Stay w (wr.alloc (.cells #[.slice (some ⟨b, 0, none⟩) kids.length kids.length] 165)) := Stay.of_below (HBW.out.alloc HBW.out.size _)
      refine ⟨wr.heap.size, rfl, ⟨kids, ⟨_, _, rfl, heap_alloc_last wr _, ?_, H0.out, hl⟩, fun kd hkd => (HK.out kd hkd).stay hst, rfl, rfl⟩, HBW.out.alloc HBW.out.size _⟩
      have h8 := HRW.out
      unfold rowJ at h8
      rw [List.take_length, List.drop_of_length_le (by have := HZL.out; omega), List.append_nil] at h8
      have := rows_all (at_alloc (o := .cells #[.slice (some ⟨b, 0, none⟩) kids.length kids.length] 165) h8)
      rw [krow_len] at this
      exact this
end Go.Proofs.Ytefigjdebakccaa
