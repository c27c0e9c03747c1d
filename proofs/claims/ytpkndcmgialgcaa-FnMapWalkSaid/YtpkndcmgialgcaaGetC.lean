/- The walks over a map's rows of pairs: get. -/
import Derived.Test.YtpkndcmgialgcaaIdx
import Derived.Test.YtpkndcmgialgcaaGet
namespace Go.Proofs.Ytpkndcmgialgcaa
open Go.RowKit

set_option maxRecDepth 100000 in
set_option maxHeartbeats 800000 in
theorem col_get_w (mo mu sh : Int) (b nb c : Nat) (es : List (Int × Int)) (key : Int) (w : World) (hl : es.length < 1000000000) (hb : w.cell? ⟨b, 1, none⟩ = some (.slice (some ⟨nb, 0, none⟩) es.length c))
    (sf hh : Int) (hk : ∀ (i : Nat) (x : Int × Int), es[i]? = some x → w.cell? ⟨nb, i * 2, none⟩ = some (.int .i64 x.1) ∧ w.cell? ⟨nb, i * 2 + 1, none⟩ = some (.int .i64 x.2)) :
    Calls Try.prog 179 #[.pointer (some ⟨b, 0, none⟩), .int .i64 key, .int .u64 sf, .int .u32 hh, .iface 175 (av mo mu sh)] w (GetPost (look es key) w) := by
  have HK := Lib.hid hk; clear hk
  have HL0 := Lib.hid (World.block_lt_of_cell? w _ hb)
  obtain ⟨h1, h2, h3⟩ := disp_equal mo mu sh
  go_enter Try.func179, Try.ntmps179
  go_wp2_with fail
  go_loopg [10, 18] es.length (fun k v10 v wr => ∃ i : Nat, i + k = es.length ∧ v10 = .int .i64 0 ∧ v = .int .i64 (i : Int) ∧ (∀ x ∈ es.take i, x.1 ≠ key) ∧ Below w.heap.size w wr)
  case atStart => exact ⟨0, by omega, rfl, rfl, by simp, Below.refl _ w⟩
  case round =>
    obtain ⟨i, hik, rfl, rfl, ht, hs⟩ := hrel
    have HT := Lib.hid ht; clear ht
    have HS := Lib.hid hs
    have hw1 : IntKind.i64.wrap ((i : Int) + 1) = (i : Int) + 1 := by rw [IntKind.wrap_i64]; omega
    by_cases hlt : i < es.length
    · have h1 : decide ((i : Int) < (es.length : Int)) = true := by simp; omega
      obtain ⟨x, hxi⟩ : ∃ x, es[i]? = some x := ⟨es[i], List.getElem?_eq_getElem hlt⟩
      have cb := (hs.cell HL0.out).trans hb
      have HLX := Lib.hid (World.block_lt_of_cell? w _ (HK.out i x hxi).1)
      have cx := (hs.cell HLX.out).trans (HK.out i x hxi).1
      have HXI := Lib.hid hxi; clear hxi hs
      obtain ⟨d, hd⟩ : ∃ d, d = decide (x.1 = key) := ⟨_, rfl⟩
      have HE : ∀ w, Hid (Calls Try.prog 166 #[av mo mu sh, .int .i64 x.1, .int .i64 key] w fun e w' => e = .returned (.bool d) ∧ Below w.heap.size w w') := fun w => by rw [hd]; exact Lib.hid (equal_w mo mu sh x.1 key w)
      have HD := Lib.hid hd
      clear hd
      go_wp2_with fail
      refine region_tail 13 (by kernel_rfl) (by kernel_rfl) ?_
      simp only [List.take_succ_cons, List.take_zero, List.drop_succ_cons, List.drop_zero]
      repeat still_step
      refine wpStill_nil ?_
      go_wp2_with fail
      refine (HE _).out.mono ?_
      rintro e w' ⟨rfl, hb1⟩
      have HB1 : Hid (Below w.heap.size w w') := HS.out.trans ((Below.undrew hb1).mono HS.out.size)
      clear hb1
      have cb2 := (HB1.out.cell HL0.out).trans hb
      have cx2 := (HB1.out.cell HLX.out).trans (HK.out i x HXI.out).2
      cases d
      · go_wp2_with fail
        go_roundg (gk - 1)
        case measure => omega
        case rel =>
          refine ⟨i + 1, by omega, rfl, rfl, ?_, HB1.out⟩
          rw [List.take_add_one, HXI.out]
          intro y hy
          rcases List.mem_append.1 hy with hy | hy
          · exact HT.out y hy
          · simp only [Option.toList_some, List.mem_singleton] at hy
            subst hy
            exact of_decide_eq_false HD.out.symm
      · go_wp2_with fail
        go_ret2
        refine ⟨?_, HB1.out⟩
        rw [look_at HXI.out (of_decide_eq_true HD.out.symm) HT.out]
        rfl
    · have h1 : decide ((i : Int) < (es.length : Int)) = false := by simp; omega
      go_wp2_with fail
      go_ret2
      refine ⟨?_, HS.out⟩
      have h2 := HT.out
      rw [List.take_of_length_le (by omega)] at h2
      rw [look_none h2]
      rfl


set_option maxRecDepth 100000 in
set_option maxHeartbeats 800000 in
theorem arr_get_w (mo mu sh : Int) (b nb c : Nat) (es : List (Int × Int)) (key : Int) (w : World) (hl : es.length < 1000000000) (hb : w.cell? ⟨b, 0, none⟩ = some (.slice (some ⟨nb, 0, none⟩) es.length c))
    (sf hh : Int) (hk : ∀ (i : Nat) (x : Int × Int), es[i]? = some x → w.cell? ⟨nb, i * 2, none⟩ = some (.int .i64 x.1) ∧ w.cell? ⟨nb, i * 2 + 1, none⟩ = some (.int .i64 x.2)) :
    Calls Try.prog 169 #[.pointer (some ⟨b, 0, none⟩), .int .i64 key, .int .u64 sf, .int .u32 hh, .iface 175 (av mo mu sh)] w (GetPost (look es key) w) := by
  have HK := Lib.hid hk; clear hk
  have HL0 := Lib.hid (World.block_lt_of_cell? w _ hb)
  have HI := Lib.hid (idx_a mo mu sh b nb c es key w hl hb fun i x hx => (HK.out i x hx).1)
  go_enter Try.func169, Try.ntmps169
  go_wp2_with fail
  refine HI.out.mono ?_
  rintro e w' ⟨hb1, ⟨rfl, hn⟩ | ⟨i, x, hx, hxk, ht, rfl⟩⟩
  · have HB := Lib.hid hb1
    have HN := Lib.hid hn
    clear hb1 hn
    go_wp2_with fail
    go_ret2
    exact ⟨by rw [look_none HN.out]; rfl, HB.out⟩
  · have HB := Lib.hid hb1
    have HX := Lib.hid hx
    have HO := Lib.hid (look_at hx hxk ht)
    have hlt : i < es.length := by
      rcases Nat.lt_or_ge i es.length with h | h
      · exact h
      · rw [List.getElem?_eq_none h] at hx; cases hx
    have cb2 := (hb1.cell HL0.out).trans hb
    have cx2 := (hb1.cell (World.block_lt_of_cell? w _ (HK.out i x hx).2)).trans (HK.out i x hx).2
    have hne : ((i : Int) == -1) = false := by simp
    clear hb1 hx hxk ht
    go_wp2_with fail
    go_ret2
    exact ⟨by rw [HO.out]; rfl, HB.out⟩
end Go.Proofs.Ytpkndcmgialgcaa
