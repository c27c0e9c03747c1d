/- The walks over rows of pairs: where a key stands. -/
import Derived.Test.YtpkndcmgialgcaaNode
import Derived.Deep.LoopGhost
namespace Go.Proofs.Ytpkndcmgialgcaa
open Go.RowKit

theorem look_none {es : List (Int × Int)} {key : Int} (hn : ∀ x ∈ es, x.1 ≠ key) : look es key = none := by
  unfold look
  rw [List.find?_eq_none.2 fun x hx => by simpa using hn x hx]
  rfl
theorem look_at : ∀ {es : List (Int × Int)} {i : Nat} {x : Int × Int} {key : Int}, es[i]? = some x → x.1 = key → (∀ y ∈ es.take i, y.1 ≠ key) → look es key = some x.2
  | [], _, _, _, h, _, _ => by simp at h
  | a :: es, 0, x, key, h, hx, _ => by
    have : a = x := by simpa using h
    subst this
    unfold look
    rw [List.find?_cons_of_pos (by simpa using hx)]
    rfl
  | a :: es, i + 1, x, key, h, hx, hn => by
    have h1 : a.1 ≠ key := hn a (by simp)
    have h2 := look_at (es := es) (i := i) (by simpa using h) hx fun y hy => hn y (by simp [hy])
    unfold look at h2 ⊢
    rw [List.find?_cons_of_neg (by simpa using h1)]
    exact h2

/-- where a key stands -/
def IdxPost (es : List (Int × Int)) (key : Int) (w : World) (e : Ending) (w' : World) : Prop :=
  Below w.heap.size w w' ∧ ((e = .returned (.int .i64 (-1)) ∧ ∀ x ∈ es, x.1 ≠ key) ∨ ∃ (i : Nat) (x : Int × Int), es[i]? = some x ∧ x.1 = key ∧ (∀ y ∈ es.take i, y.1 ≠ key) ∧ e = .returned (.int .i64 (i : Int)))

set_option maxRecDepth 100000 in
set_option maxHeartbeats 800000 in
theorem idx_a (mo mu sh : Int) (b nb c : Nat) (es : List (Int × Int)) (key : Int) (w : World) (hl : es.length < 1000000000) (hb : w.cell? ⟨b, 0, none⟩ = some (.slice (some ⟨nb, 0, none⟩) es.length c))
    (hk : ∀ (i : Nat) (x : Int × Int), es[i]? = some x → w.cell? ⟨nb, i * 2, none⟩ = some (.int .i64 x.1)) :
    Calls Try.prog 170 #[.pointer (some ⟨b, 0, none⟩), .int .i64 key, .iface 175 (av mo mu sh)] w (IdxPost es key w) := by
  have HK := Lib.hid hk; clear hk
  have HL0 := Lib.hid (World.block_lt_of_cell? w _ hb)
  obtain ⟨h1, h2, h3⟩ := disp_equal mo mu sh
  go_enter Try.func170, Try.ntmps170
  go_wp2_with fail
  go_loopg [13] es.length (fun k v wr => ∃ i : Nat, i + k = es.length ∧ v = .int .i64 (i : Int) ∧ (∀ x ∈ es.take i, x.1 ≠ key) ∧ Below w.heap.size w wr)
  case atStart => exact ⟨0, by omega, rfl, by simp, Below.refl _ w⟩
  case round =>
    obtain ⟨i, hik, rfl, ht, hs⟩ := hrel
    have HT := Lib.hid ht; clear ht
    have HS := Lib.hid hs
    have hw1 : IntKind.i64.wrap ((i : Int) + 1) = (i : Int) + 1 := by rw [IntKind.wrap_i64]; omega
    by_cases hlt : i < es.length
    · have h1 : decide ((i : Int) < (es.length : Int)) = true := by simp; omega
      obtain ⟨x, hxi⟩ : ∃ x, es[i]? = some x := ⟨es[i], List.getElem?_eq_getElem hlt⟩
      have cb := (hs.cell HL0.out).trans hb
      have cx := (hs.cell (World.block_lt_of_cell? w _ (HK.out i x hxi))).trans (HK.out i x hxi)
      have HXI := Lib.hid hxi; clear hxi hs
      obtain ⟨d, hd⟩ : ∃ d, d = decide (x.1 = key) := ⟨_, rfl⟩
      have HE : ∀ w, Hid (Calls Try.prog 166 #[av mo mu sh, .int .i64 x.1, .int .i64 key] w fun e w' => e = .returned (.bool d) ∧ Below w.heap.size w w') := fun w => by rw [hd]; exact Lib.hid (equal_w mo mu sh x.1 key w)
      have HD := Lib.hid hd
      clear hd
      go_wp2_with fail
      refine region_tail 13 (by kernel_rfl) (by kernel_rfl) ?_
      simp only [List.take_succ_cons, List.take_zero, List.drop_succ_cons, List.drop_zero]
      repeat still_step
      refine wpStill_nil ?_
      go_wp2_with fail
      refine (HE _).out.mono ?_
      rintro e w' ⟨rfl, hb1⟩
      have HB1 : Hid (Below w.heap.size w w') := HS.out.trans ((Below.undrew hb1).mono HS.out.size)
      clear hb1
      cases d
      · go_wp2_with fail
        go_roundg (gk - 1)
        case measure => omega
        case rel =>
          refine ⟨i + 1, by omega, rfl, ?_, HB1.out⟩
          rw [List.take_add_one, HXI.out]
          intro y hy
          rcases List.mem_append.1 hy with hy | hy
          · exact HT.out y hy
          · simp only [Option.toList_some, List.mem_singleton] at hy
            subst hy
            exact of_decide_eq_false HD.out.symm
      · go_wp2_with fail
        go_ret
        exact ⟨HB1.out, .inr ⟨i, x, HXI.out, of_decide_eq_true HD.out.symm, HT.out, rfl⟩⟩
    · have h1 : decide ((i : Int) < (es.length : Int)) = false := by simp; omega
      go_wp2_with fail
      go_ret
      refine ⟨HS.out, .inl ⟨rfl, ?_⟩⟩
      have h2 := HT.out
      rw [List.take_of_length_le (by omega)] at h2
      exact h2

set_option maxRecDepth 100000 in
set_option maxHeartbeats 800000 in
theorem idx_c (mo mu sh : Int) (b nb c : Nat) (es : List (Int × Int)) (key : Int) (w : World) (hl : es.length < 1000000000) (hb : w.cell? ⟨b, 1, none⟩ = some (.slice (some ⟨nb, 0, none⟩) es.length c))
    (hk : ∀ (i : Nat) (x : Int × Int), es[i]? = some x → w.cell? ⟨nb, i * 2, none⟩ = some (.int .i64 x.1)) :
    Calls Try.prog 182 #[.pointer (some ⟨b, 0, none⟩), .int .i64 key, .iface 175 (av mo mu sh)] w (IdxPost es key w) := by
  have HK := Lib.hid hk; clear hk
  have HL0 := Lib.hid (World.block_lt_of_cell? w _ hb)
  obtain ⟨h1, h2, h3⟩ := disp_equal mo mu sh
  go_enter Try.func182, Try.ntmps182
  go_wp2_with fail
  go_loopg [13] es.length (fun k v wr => ∃ i : Nat, i + k = es.length ∧ v = .int .i64 (i : Int) ∧ (∀ x ∈ es.take i, x.1 ≠ key) ∧ Below w.heap.size w wr)
  case atStart => exact ⟨0, by omega, rfl, by simp, Below.refl _ w⟩
  case round =>
    obtain ⟨i, hik, rfl, ht, hs⟩ := hrel
    have HT := Lib.hid ht; clear ht
    have HS := Lib.hid hs
    have hw1 : IntKind.i64.wrap ((i : Int) + 1) = (i : Int) + 1 := by rw [IntKind.wrap_i64]; omega
    by_cases hlt : i < es.length
    · have h1 : decide ((i : Int) < (es.length : Int)) = true := by simp; omega
      obtain ⟨x, hxi⟩ : ∃ x, es[i]? = some x := ⟨es[i], List.getElem?_eq_getElem hlt⟩
      have cb := (hs.cell HL0.out).trans hb
      have cx := (hs.cell (World.block_lt_of_cell? w _ (HK.out i x hxi))).trans (HK.out i x hxi)
      have HXI := Lib.hid hxi; clear hxi hs
      obtain ⟨d, hd⟩ : ∃ d, d = decide (x.1 = key) := ⟨_, rfl⟩
      have HE : ∀ w, Hid (Calls Try.prog 166 #[av mo mu sh, .int .i64 x.1, .int .i64 key] w fun e w' => e = .returned (.bool d) ∧ Below w.heap.size w w') := fun w => by rw [hd]; exact Lib.hid (equal_w mo mu sh x.1 key w)
      have HD := Lib.hid hd
      clear hd
      go_wp2_with fail
      refine region_tail 13 (by kernel_rfl) (by kernel_rfl) ?_
      simp only [List.take_succ_cons, List.take_zero, List.drop_succ_cons, List.drop_zero]
      repeat still_step
      refine wpStill_nil ?_
      go_wp2_with fail
      refine (HE _).out.mono ?_
      rintro e w' ⟨rfl, hb1⟩
      have HB1 : Hid (Below w.heap.size w w') := HS.out.trans ((Below.undrew hb1).mono HS.out.size)
      clear hb1
      cases d
      · go_wp2_with fail
        go_roundg (gk - 1)
        case measure => omega
        case rel =>
          refine ⟨i + 1, by omega, rfl, ?_, HB1.out⟩
          rw [List.take_add_one, HXI.out]
          intro y hy
          rcases List.mem_append.1 hy with hy | hy
          · exact HT.out y hy
          · simp only [Option.toList_some, List.mem_singleton] at hy
            subst hy
            exact of_decide_eq_false HD.out.symm
      · go_wp2_with fail
        go_ret
        exact ⟨HB1.out, .inr ⟨i, x, HXI.out, of_decide_eq_true HD.out.symm, HT.out, rfl⟩⟩
    · have h1 : decide ((i : Int) < (es.length : Int)) = false := by simp; omega
      go_wp2_with fail
      go_ret
      refine ⟨HS.out, .inl ⟨rfl, ?_⟩⟩
      have h2 := HT.out
      rw [List.take_of_length_le (by omega)] at h2
      exact h2
end Go.Proofs.Ytpkndcmgialgcaa
