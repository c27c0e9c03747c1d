/- An iterator's Next. Conditions of this file: none.

An iterator's Prev. Conditions of this file: none.

A move of an iterator, as the closure of ListIterate makes it. Conditions of this file: none.

thrown of a move of an iterator. Conditions of this file: none. -/
import Derived.Test.YtnahipfdnadccaaItrD
import Derived.Test.YtnahipfdnadccaaThrown
namespace Go.Proofs.Ytnahipfdnadccaa
open Go.RowKit

/-- the worlds at the loop's head -/
def NextW (w0 : World) (ib lb n D o P : Nat) (xs : List Int) (i1 : Int) (k : Nat) (w : World) : Prop :=
  ∃ arr, k ≤ D ∧ ItB w ib lb arr i1 k ∧ Way w arr D o P k xs ∧ Sl arr D P (k + 1) ∧ 32 ^ (D - k) ∣ P + 1 ∧ ListAt w lb n D o xs ∧ But (· = ib) w0 w

set_option maxRecDepth 100000 in
set_option maxHeartbeats 3200000 in
theorem next_w (ib lb n D o : Nat) (xs : List Int) (idx : Int) (w : World) (h : Itr w ib lb n D o xs idx) :
    Calls Try.prog 39 #[.pointer (some ⟨ib, 0, none⟩)] w fun e w' => But (· = ib) w w' ∧
      ((isDone idx xs.length = true ∧ e = .returned (.tuple #[.int .i64 (-1), .int .i64 0]) ∧ Itr w' ib lb n D o xs idx) ∨
        ∃ (i : Nat) (x : Int), idx = (i : Int) ∧ xs[i]? = some x ∧ e = .returned (.tuple #[.int .i64 (i : Int), .int .i64 x]) ∧ Itr w' ib lb n D o xs ((i : Int) + 1)) := by
  obtain ⟨arr, dep, hI, hl, hlo, hhi, hlive⟩ := h
  have hwm : IntKind.i64.wrap (-1) = -1 := by decide
  by_cases hdn : isDone idx xs.length = true
  · have HR : Hid (Itr w.drew ib lb n D o xs idx) := ⟨arr, dep, hI, hl.stay fun _ _ _ h _ => h, hlo, hhi, fun h1 h2 => absurd hdn (by simp [isDone]; omega)⟩
    have hcd := Lib.hid (done_w ib lb arr idx dep n D o xs w hI hl)
    rw [hdn] at hcd
    clear hI hl hlo hhi hlive
    go_enter Try.func39, Try.ntmps39
    go_wp2_with fail
    refine hcd.out.mono ?_
    rintro e w' ⟨rfl, rfl⟩
    go_wp2
    refine bodyPost_ret (results_tmp2 rfl _ _ _) rfl ?_
    exact ⟨(But.refl _ w).drew, .inl ⟨hdn, rfl, HR.out⟩⟩
  · have hb0 : 0 ≤ idx ∧ idx < xs.length := by
      simp [isDone] at hdn
      omega
    obtain ⟨i, rfl⟩ : ∃ i : Nat, idx = (i : Int) := ⟨idx.toNat, by omega⟩
    obtain ⟨rfl, hW, hS⟩ := hlive hb0.1 hb0.2
    rw [Int.toNat_natCast] at hW hS
    have hi : i < xs.length := by omega
    have hcd := Lib.hid (done_w ib lb arr (i : Int) dep n dep o xs w hI hl)
    have hdn' : isDone (i : Int) xs.length = false := by simpa using hdn
    rw [hdn'] at hcd
    have hle := hl.choose_spec.2.2.2.1
    have hD7 := hl.choose_spec.2.2.2.2.1
    have hle2 := pow_le8 hD7
    obtain ⟨p, sl, la, hsl, c1, c2, c3, c4⟩ := way_leaf hW hS hi
    obtain ⟨x, hx⟩ : ∃ x, x = xs[i] := ⟨_, rfl⟩
    rw [← hx] at c4
    replace hx : xs[i]? = some x := by rw [hx]; exact List.getElem?_eq_getElem hi
    obtain ⟨P, hP⟩ : ∃ P, P = o + i := ⟨_, rfl⟩
    rw [← hP] at hW hS
    have HW := Lib.hid hW
    have HS := Lib.hid hS
    have HI := Lib.hid hI
    have HL := Lib.hid hl
    have HX := Lib.hid hx
    have HP : Hid (P = o + i ∧ i < xs.length ∧ P < 32 ^ (dep + 1) ∧ xs.length < 1000000000000000) := ⟨hP, hi, by omega, by omega⟩
    obtain ⟨z, hz⟩ : ∃ z : Int, z = ((i : Int) + 1) := ⟨_, rfl⟩
    have hw1 : IntKind.i64.wrap ((i : Int) + 1) = z := by rw [IntKind.wrap_i64]; omega
    have HZ := Lib.hid hz
    have k1 := cell_at hI.1 hI.2.2.2.1
    have f1 : w.frozen? ⟨ib, 1, none⟩ = false := frozen_of_row _ _ _ _ _ hI.1
    have k66 := cell_at hI.1 hI.2.2.2.2.1
    have kn := cell_at hI.1 c1
    have ks := cell_at hI.1 c2
    have kc : w.cell? ⟨p, sl, none⟩ = some (.int .i64 x) := cell_at c3 c4
    have hd32 : (dep : Int) < 32 := by omega
    have hs32 : (sl : Int) < 32 := by omega
    have hta := run_assert111 p
    have HHB := Lib.hid hlo
    have HD7 := Lib.hid hD7
    clear hI hl hW hS hx hP hi hz hle hle2 hD7 c1 c2 c3 c4 hdn hdn' hlo hhi hlive hb0 hsl
    go_enter Try.func39, Try.ntmps39
    go_wp2_with fail
    refine hcd.out.mono ?_
    rintro e w' ⟨rfl, rfl⟩
    clear hcd
    go_upto_region 4 with (fail)
    refine region_still (by kernel_rfl) (by kernel_rfl) (Veil.out ?_)
    repeat (refine v_step (fun K hK => ?_); go_simp; refine hK _ ?_; clear hK K)
    refine v_nil ⟨?_⟩
    go_upto_region 5 with (fail)
    refine region_still (by kernel_rfl) (by kernel_rfl) (Veil.out ?_)
    repeat (refine v_step (fun K hK => ?_); go_simp; refine hK _ ?_; clear hK K)
    refine v_nil ⟨?_⟩
    go_upto_region 6 with (fail)
    go_upto_region 7 with (fail)
    obtain ⟨arr1, r1, r2⟩ := ItB.set_idx (w := w) z HI.out
    have hB1 : But (· = ib) w (w.setCell ⟨ib, 1, none⟩ (.int .i64 z)).drew.drew.drew := ((But.refl (· = ib) w).setCell (p := ⟨ib, 1, none⟩) (.inl rfl) _).drew.drew.drew
    replace r1 : ItB (w.setCell ⟨ib, 1, none⟩ (.int .i64 z)).drew.drew.drew ib lb arr1 z dep := r1
    clear k1 f1 k66 kn ks kc hw1 hs32 hta hd32
    generalize hW1 : (w.setCell ⟨ib, 1, none⟩ (.int .i64 z)).drew.drew.drew = w1 at r1 hB1 ⊢
    clear hW1
    have hst := HI.out.stay hB1
    have hl1 := HL.out.stay hst
    have hcd := Lib.hid (done_w ib lb arr1 z dep n dep o xs w1 r1 hl1)
    have HR := Lib.hid (And.intro r1 (And.intro r2 (And.intro hl1 (And.intro hst hB1))))
    clear r1 r2 hB1 hst hl1
    by_cases hdn : isDone z xs.length = true
    · rw [hdn] at hcd
      go_wp2_with fail
      refine hcd.out.mono ?_
      rintro e w' ⟨rfl, rfl⟩
      go_wp2
      refine bodyPost_ret (results_tmp2 rfl _ _ _) rfl ?_
      obtain ⟨r1, r2, hl1, hst, hB1⟩ := HR.out
      have hz := HZ.out
      have hP := HP.out
      refine ⟨hB1.drew, .inr ⟨i, x, rfl, HX.out, rfl, arr1, dep, ?_⟩⟩
      rw [← hz]
      exact ⟨r1, hl1.stay fun _ _ _ h _ => h, by omega, by omega, fun h1 h2 => absurd hdn (by simp [isDone]; omega)⟩
    · have hdn' : isDone z xs.length = false := by simpa using hdn
      rw [hdn'] at hcd
      obtain ⟨i1, hi1, hi1'⟩ : ∃ i1 : Nat, z = (i1 : Int) ∧ i1 < xs.length := by
        simp [isDone] at hdn'
        exact ⟨z.toNat, by omega, by omega⟩
      subst hi1
      have HI1 := Lib.hid hi1'
      have HStart : Hid (NextW w ib lb n dep o P xs i1 dep w1.drew) := by
        obtain ⟨r1, r2, hl1, hst, hB1⟩ := HR.out
        exact ⟨arr1, Nat.le_refl _, r1, (HW.out.keep hst fun j hj => r2 _ (by omega)), HS.out.keep fun j hj => r2 _ (by omega), by rw [Nat.sub_self, Nat.pow_zero]; exact Nat.one_dvd _, hl1.stay fun _ _ _ h _ => h, hB1.drew⟩
      clear hdn hdn' hi1' HR HW HS HI HHB
      go_wp2_with fail
      refine hcd.out.mono ?_
      rintro e w' ⟨rfl, rfl⟩
      clear hcd
      go_wp2_with fail
      go_loopg [] dep (fun k wr => NextW w ib lb n dep o P xs i1 k wr)
      case atStart => exact HStart.out
      case round =>
        clear HStart arr arr1 w1
        obtain ⟨arr2, hk, hI2, hW2, hS2, hdvd, hl2, hb2⟩ := hrel
        have hsl := hS2 gk (Nat.lt_succ_self _)
        have hslt := slot_lt (P : Int) (dep - gk)
        have HSLE : Hid (slot (P : Int) (dep - gk) = slot (P : Int) (dep - gk)) := rfl
        generalize hs0 : slot (P : Int) (dep - gk) = sl1 at hsl hslt
        clear HSLE
        have HSL := Lib.hid hs0
        have k1 := cell_at hI2.1 hI2.2.2.2.1
        have k66 := cell_at hI2.1 hI2.2.2.2.2.1
        have f66 : wr.frozen? ⟨ib, 66, none⟩ = false := frozen_of_row _ _ _ _ _ hI2.1
        have ks : wr.cell? ⟨ib, 2 + gk * 2 + 1, none⟩ = some (.int .i64 (sl1 : Int)) := cell_at hI2.1 (by rw [show 2 + gk * 2 + 1 = 3 + gk * 2 by omega]; exact hsl)
        have hd32 : (gk : Int) < 32 := by have := HD7.out; omega
        have HI2 := Lib.hid hI2
        have HW2 := Lib.hid hW2
        have HS2 := Lib.hid hS2
        have HDV := Lib.hid hdvd
        have HL2 := Lib.hid hl2
        have HB2 := Lib.hid hb2
        have HK := Lib.hid hk
        clear hI2 hW2 hS2 hdvd hl2 hb2 hs0 hsl hk
        by_cases hg0 : gk = 0
        · have hc : ¬ 0 < gk := by omega
          have HQ : Hid ((P + 1) / 32 ^ (dep - gk + 1) = P / 32 ^ (dep - gk + 1)) := by
            have h1 := HP.out
            have h2 := HZ.out
            show _ = _
            subst hg0
            rw [Nat.sub_zero, Nat.div_eq_of_lt h1.2.2.1, Nat.div_eq_of_lt (by have := HI1.out; have := HL2.out.choose_spec.2.2.2.1; omega)]
          clear hg0 ks
          go_wp2_with fail
          refine region_still (by kernel_rfl) (by kernel_rfl) (Veil.out ?_)
          repeat (refine v_step (fun K hK => ?_); go_simp; refine hK _ ?_; clear hK K)
          refine v_nil ⟨?_⟩
          go_wp2_with fail
          obtain ⟨e1, e2⟩ : (P + 1) = o + i1 ∧ 0 < P + 1 := by have := HP.out; have := HZ.out; omega
          have hq := HQ.out
          have hk := HK.out
          rw [e1] at hq
          have hw : Way wr.drew arr2 dep o (o + i1) gk xs := (HW2.out.turn hk hq).keep (fun _ _ _ h _ => h) fun _ _ => rfl
          have hs : Sl arr2 dep (o + i1) gk := (HS2.out.less (Nat.le_succ _)).turn hk hq
          have hl3 : ListAt wr.drew lb n dep o xs := HL2.out.stay fun _ _ _ h _ => h
          have hI3 : ItB wr.drew ib lb arr2 (i1 : Int) gk := HI2.out
          refine (seek_w ib lb n dep o gk arr2 xs i1 (i1 : Int) wr.drew HI1.out hl3 hI3 (Itr.ne hI3 hl3) hk hw hs).mono ?_
          rintro e w5 ⟨rfl, hb5, arr5, q1, q2, q3, q4⟩
          have HRes : Hid (But (· = ib) w w5 ∧ Itr w5 ib lb n dep o xs i1) := ⟨HB2.out.drew.trans hb5, arr5, dep, q1, q4, by omega, by have := HI1.out; omega, fun _ _ => ⟨rfl, q2, q3⟩⟩
          clear q1 q2 q3 q4 hb5 hq hk hw hs hl3 hI3 e1 e2
          go_wp2
          refine bodyPost_ret (results_tmp2 rfl _ _ _) rfl ?_
          exact ⟨HRes.out.1, .inr ⟨i, x, rfl, HX.out, rfl, by rw [← HZ.out]; exact HRes.out.2⟩⟩
        · have hc : 0 < gk := by omega
          have hw2 : IntKind.i64.wrap ((gk : Int) - 1) = ((gk - 1 : Nat) : Int) := by rw [IntKind.wrap_i64]; omega
          by_cases hbad : sl1 = 31
          · have hc2 : 31 ≤ sl1 := by omega
            go_wp2_with fail
            refine region_still (by kernel_rfl) (by kernel_rfl) (Veil.out ?_)
            repeat (refine v_step (fun K hK => ?_); go_simp; refine hK _ ?_; clear hK K)
            refine v_nil ⟨?_⟩
            go_wp2_with fail
            go_roundg (gk - 1)
            case measure => omega
            case rel =>
              obtain ⟨arr3, q1, q2⟩ := ItB.set_dep (w := wr) (gk - 1) HI2.out
              have hb3 : But (· = ib) wr (wr.setCell ⟨ib, 66, none⟩ (.int .i64 ((gk - 1 : Nat) : Int))).drew := ((But.refl (· = ib) wr).setCell (p := ⟨ib, 66, none⟩) (.inl rfl) _).drew
              have hst := HI2.out.stay hb3
              have hk := HK.out
              have hd7 := HD7.out
              refine ⟨arr3, by omega, q1, (HW2.out.less (by omega)).keep hst fun j hj => q2 _ (by omega), (HS2.out.less (by omega)).keep fun j hj => q2 _ (by omega), ?_, HL2.out.stay hst, HB2.out.trans hb3⟩
              rw [show dep - (gk - 1) = dep - gk + 1 by omega]
              exact next_up HDV.out (HSL.out.trans hbad)
          · have hc2 : ¬ 31 ≤ sl1 := by omega
            have HQ : Hid ((P + 1) / 32 ^ (dep - gk + 1) = P / 32 ^ (dep - gk + 1)) := next_stop HDV.out (by rw [HSL.out]; exact hbad)
            clear hw2
            go_wp2_with fail
            refine region_still (by kernel_rfl) (by kernel_rfl) (Veil.out ?_)
            repeat (refine v_step (fun K hK => ?_); go_simp; refine hK _ ?_; clear hK K)
            refine v_nil ⟨?_⟩
            go_wp2_with fail
            obtain ⟨e1, e2⟩ : (P + 1) = o + i1 ∧ 0 < P + 1 := by have := HP.out; have := HZ.out; omega
            have hq := HQ.out
            have hk := HK.out
            rw [e1] at hq
            have hw : Way wr.drew arr2 dep o (o + i1) gk xs := (HW2.out.turn hk hq).keep (fun _ _ _ h _ => h) fun _ _ => rfl
            have hs : Sl arr2 dep (o + i1) gk := (HS2.out.less (Nat.le_succ _)).turn hk hq
            have hl3 : ListAt wr.drew lb n dep o xs := HL2.out.stay fun _ _ _ h _ => h
            have hI3 : ItB wr.drew ib lb arr2 (i1 : Int) gk := HI2.out
            refine (seek_w ib lb n dep o gk arr2 xs i1 (i1 : Int) wr.drew HI1.out hl3 hI3 (Itr.ne hI3 hl3) hk hw hs).mono ?_
            rintro e w5 ⟨rfl, hb5, arr5, q1, q2, q3, q4⟩
            have HRes : Hid (But (· = ib) w w5 ∧ Itr w5 ib lb n dep o xs i1) := ⟨HB2.out.drew.trans hb5, arr5, dep, q1, q4, by omega, by have := HI1.out; omega, fun _ _ => ⟨rfl, q2, q3⟩⟩
            clear q1 q2 q3 q4 hb5 hq hk hw hs hl3 hI3 e1 e2
            go_wp2
            refine bodyPost_ret (results_tmp2 rfl _ _ _) rfl ?_
            exact ⟨HRes.out.1, .inr ⟨i, x, rfl, HX.out, rfl, by rw [← HZ.out]; exact HRes.out.2⟩⟩

end Go.Proofs.Ytnahipfdnadccaa

namespace Go.Proofs.Ytnahipfdnadccaa
open Go.RowKit

/-- the worlds at the loop's head -/
def PrevW (w0 : World) (ib lb n D o P : Nat) (xs : List Int) (i1 : Int) (k : Nat) (w : World) : Prop :=
  ∃ arr, k ≤ D ∧ ItB w ib lb arr i1 k ∧ Way w arr D o P k xs ∧ Sl arr D P (k + 1) ∧ 32 ^ (D - k) ∣ P ∧ ListAt w lb n D o xs ∧ But (· = ib) w0 w

set_option maxRecDepth 100000 in
set_option maxHeartbeats 3200000 in
theorem prev_w (ib lb n D o : Nat) (xs : List Int) (idx : Int) (w : World) (h : Itr w ib lb n D o xs idx) :
    Calls Try.prog 40 #[.pointer (some ⟨ib, 0, none⟩)] w fun e w' => But (· = ib) w w' ∧
      ((isDone idx xs.length = true ∧ e = .returned (.tuple #[.int .i64 (-1), .int .i64 0]) ∧ Itr w' ib lb n D o xs idx) ∨
        ∃ (i : Nat) (x : Int), idx = (i : Int) ∧ xs[i]? = some x ∧ e = .returned (.tuple #[.int .i64 (i : Int), .int .i64 x]) ∧ Itr w' ib lb n D o xs ((i : Int) - 1)) := by
  obtain ⟨arr, dep, hI, hl, hlo, hhi, hlive⟩ := h
  have hwm : IntKind.i64.wrap (-1) = -1 := by decide
  by_cases hdn : isDone idx xs.length = true
  · have HR : Hid (Itr w.drew ib lb n D o xs idx) := ⟨arr, dep, hI, hl.stay fun _ _ _ h _ => h, hlo, hhi, fun h1 h2 => absurd hdn (by simp [isDone]; omega)⟩
    have hcd := Lib.hid (done_w ib lb arr idx dep n D o xs w hI hl)
    rw [hdn] at hcd
    clear hI hl hlo hhi hlive
    go_enter Try.func40, Try.ntmps40
    go_wp2_with fail
    refine hcd.out.mono ?_
    rintro e w' ⟨rfl, rfl⟩
    go_wp2
    refine bodyPost_ret (results_tmp2 rfl _ _ _) rfl ?_
    exact ⟨(But.refl _ w).drew, .inl ⟨hdn, rfl, HR.out⟩⟩
  · have hb0 : 0 ≤ idx ∧ idx < xs.length := by
      simp [isDone] at hdn
      omega
    obtain ⟨i, rfl⟩ : ∃ i : Nat, idx = (i : Int) := ⟨idx.toNat, by omega⟩
    obtain ⟨rfl, hW, hS⟩ := hlive hb0.1 hb0.2
    rw [Int.toNat_natCast] at hW hS
    have hi : i < xs.length := by omega
    have hcd := Lib.hid (done_w ib lb arr (i : Int) dep n dep o xs w hI hl)
    have hdn' : isDone (i : Int) xs.length = false := by simpa using hdn
    rw [hdn'] at hcd
    have hle := hl.choose_spec.2.2.2.1
    have hD7 := hl.choose_spec.2.2.2.2.1
    have hle2 := pow_le8 hD7
    obtain ⟨p, sl, la, hsl, c1, c2, c3, c4⟩ := way_leaf hW hS hi
    obtain ⟨x, hx⟩ : ∃ x, x = xs[i] := ⟨_, rfl⟩
    rw [← hx] at c4
    replace hx : xs[i]? = some x := by rw [hx]; exact List.getElem?_eq_getElem hi
    obtain ⟨P, hP⟩ : ∃ P, P = o + i := ⟨_, rfl⟩
    rw [← hP] at hW hS
    have HW := Lib.hid hW
    have HS := Lib.hid hS
    have HI := Lib.hid hI
    have HL := Lib.hid hl
    have HX := Lib.hid hx
    have HP : Hid (P = o + i ∧ i < xs.length ∧ P < 32 ^ (dep + 1) ∧ xs.length < 1000000000000000) := ⟨hP, hi, by omega, by omega⟩
    obtain ⟨z, hz⟩ : ∃ z : Int, z = ((i : Int) - 1) := ⟨_, rfl⟩
    have hw1 : IntKind.i64.wrap ((i : Int) - 1) = z := by rw [IntKind.wrap_i64]; omega
    have HZ := Lib.hid hz
    have k1 := cell_at hI.1 hI.2.2.2.1
    have f1 : w.frozen? ⟨ib, 1, none⟩ = false := frozen_of_row _ _ _ _ _ hI.1
    have k66 := cell_at hI.1 hI.2.2.2.2.1
    have kn := cell_at hI.1 c1
    have ks := cell_at hI.1 c2
    have kc : w.cell? ⟨p, sl, none⟩ = some (.int .i64 x) := cell_at c3 c4
    have hd32 : (dep : Int) < 32 := by omega
    have hs32 : (sl : Int) < 32 := by omega
    have hta := run_assert111 p
    have HHB := Lib.hid hlo
    have HD7 := Lib.hid hD7
    clear hI hl hW hS hx hP hi hz hle hle2 hD7 c1 c2 c3 c4 hdn hdn' hlo hhi hlive hb0 hsl
    go_enter Try.func40, Try.ntmps40
    go_wp2_with fail
    refine hcd.out.mono ?_
    rintro e w' ⟨rfl, rfl⟩
    clear hcd
    go_upto_region 4 with (fail)
    refine region_still (by kernel_rfl) (by kernel_rfl) (Veil.out ?_)
    repeat (refine v_step (fun K hK => ?_); go_simp; refine hK _ ?_; clear hK K)
    refine v_nil ⟨?_⟩
    go_upto_region 5 with (fail)
    refine region_still (by kernel_rfl) (by kernel_rfl) (Veil.out ?_)
    repeat (refine v_step (fun K hK => ?_); go_simp; refine hK _ ?_; clear hK K)
    refine v_nil ⟨?_⟩
    go_upto_region 6 with (fail)
    go_upto_region 7 with (fail)
    obtain ⟨arr1, r1, r2⟩ := ItB.set_idx (w := w) z HI.out
    have hB1 : But (· = ib) w (w.setCell ⟨ib, 1, none⟩ (.int .i64 z)).drew.drew.drew := ((But.refl (· = ib) w).setCell (p := ⟨ib, 1, none⟩) (.inl rfl) _).drew.drew.drew
    replace r1 : ItB (w.setCell ⟨ib, 1, none⟩ (.int .i64 z)).drew.drew.drew ib lb arr1 z dep := r1
    clear k1 f1 k66 kn ks kc hw1 hs32 hta hd32
    generalize hW1 : (w.setCell ⟨ib, 1, none⟩ (.int .i64 z)).drew.drew.drew = w1 at r1 hB1 ⊢
    clear hW1
    have hst := HI.out.stay hB1
    have hl1 := HL.out.stay hst
    have hcd := Lib.hid (done_w ib lb arr1 z dep n dep o xs w1 r1 hl1)
    have HR := Lib.hid (And.intro r1 (And.intro r2 (And.intro hl1 (And.intro hst hB1))))
    clear r1 r2 hB1 hst hl1
    by_cases hdn : isDone z xs.length = true
    · rw [hdn] at hcd
      go_wp2_with fail
      refine hcd.out.mono ?_
      rintro e w' ⟨rfl, rfl⟩
      go_wp2
      refine bodyPost_ret (results_tmp2 rfl _ _ _) rfl ?_
      obtain ⟨r1, r2, hl1, hst, hB1⟩ := HR.out
      have hz := HZ.out
      have hP := HP.out
      refine ⟨hB1.drew, .inr ⟨i, x, rfl, HX.out, rfl, arr1, dep, ?_⟩⟩
      rw [← hz]
      exact ⟨r1, hl1.stay fun _ _ _ h _ => h, by omega, by omega, fun h1 h2 => absurd hdn (by simp [isDone]; omega)⟩
    · have hdn' : isDone z xs.length = false := by simpa using hdn
      rw [hdn'] at hcd
      obtain ⟨i1, hi1, hi1'⟩ : ∃ i1 : Nat, z = (i1 : Int) ∧ i1 < xs.length := by
        simp [isDone] at hdn'
        exact ⟨z.toNat, by omega, by omega⟩
      subst hi1
      have HI1 := Lib.hid hi1'
      have HStart : Hid (PrevW w ib lb n dep o P xs i1 dep w1.drew) := by
        obtain ⟨r1, r2, hl1, hst, hB1⟩ := HR.out
        exact ⟨arr1, Nat.le_refl _, r1, (HW.out.keep hst fun j hj => r2 _ (by omega)), HS.out.keep fun j hj => r2 _ (by omega), by rw [Nat.sub_self, Nat.pow_zero]; exact Nat.one_dvd _, hl1.stay fun _ _ _ h _ => h, hB1.drew⟩
      clear hdn hdn' hi1' HR HW HS HI HHB
      go_wp2_with fail
      refine hcd.out.mono ?_
      rintro e w' ⟨rfl, rfl⟩
      clear hcd
      go_wp2_with fail
      go_loopg [] dep (fun k wr => PrevW w ib lb n dep o P xs i1 k wr)
      case atStart => exact HStart.out
      case round =>
        clear HStart arr arr1 w1
        obtain ⟨arr2, hk, hI2, hW2, hS2, hdvd, hl2, hb2⟩ := hrel
        have hsl := hS2 gk (Nat.lt_succ_self _)
        have hslt := slot_lt (P : Int) (dep - gk)
        have HSLE : Hid (slot (P : Int) (dep - gk) = slot (P : Int) (dep - gk)) := rfl
        generalize hs0 : slot (P : Int) (dep - gk) = sl1 at hsl hslt
        clear HSLE
        have HSL := Lib.hid hs0
        have k1 := cell_at hI2.1 hI2.2.2.2.1
        have k66 := cell_at hI2.1 hI2.2.2.2.2.1
        have f66 : wr.frozen? ⟨ib, 66, none⟩ = false := frozen_of_row _ _ _ _ _ hI2.1
        have ks : wr.cell? ⟨ib, 2 + gk * 2 + 1, none⟩ = some (.int .i64 (sl1 : Int)) := cell_at hI2.1 (by rw [show 2 + gk * 2 + 1 = 3 + gk * 2 by omega]; exact hsl)
        have hd32 : (gk : Int) < 32 := by have := HD7.out; omega
        have HI2 := Lib.hid hI2
        have HW2 := Lib.hid hW2
        have HS2 := Lib.hid hS2
        have HDV := Lib.hid hdvd
        have HL2 := Lib.hid hl2
        have HB2 := Lib.hid hb2
        have HK := Lib.hid hk
        clear hI2 hW2 hS2 hdvd hl2 hb2 hs0 hsl hk
        by_cases hg0 : gk = 0
        · have hc : ¬ 0 < gk := by omega
          have HQ : Hid ((P - 1) / 32 ^ (dep - gk + 1) = P / 32 ^ (dep - gk + 1)) := by
            have h1 := HP.out
            have h2 := HZ.out
            show _ = _
            subst hg0
            rw [Nat.sub_zero, Nat.div_eq_of_lt h1.2.2.1, Nat.div_eq_of_lt (by have := HI1.out; have := HL2.out.choose_spec.2.2.2.1; omega)]
          clear hg0 ks
          go_wp2_with fail
          refine region_still (by kernel_rfl) (by kernel_rfl) (Veil.out ?_)
          repeat (refine v_step (fun K hK => ?_); go_simp; refine hK _ ?_; clear hK K)
          refine v_nil ⟨?_⟩
          go_wp2_with fail
          obtain ⟨e1, e2⟩ : (P - 1) = o + i1 ∧ 0 < P + 1 := by have := HP.out; have := HZ.out; omega
          have hq := HQ.out
          have hk := HK.out
          rw [e1] at hq
          have hw : Way wr.drew arr2 dep o (o + i1) gk xs := (HW2.out.turn hk hq).keep (fun _ _ _ h _ => h) fun _ _ => rfl
          have hs : Sl arr2 dep (o + i1) gk := (HS2.out.less (Nat.le_succ _)).turn hk hq
          have hl3 : ListAt wr.drew lb n dep o xs := HL2.out.stay fun _ _ _ h _ => h
          have hI3 : ItB wr.drew ib lb arr2 (i1 : Int) gk := HI2.out
          refine (seek_w ib lb n dep o gk arr2 xs i1 (i1 : Int) wr.drew HI1.out hl3 hI3 (Itr.ne hI3 hl3) hk hw hs).mono ?_
          rintro e w5 ⟨rfl, hb5, arr5, q1, q2, q3, q4⟩
          have HRes : Hid (But (· = ib) w w5 ∧ Itr w5 ib lb n dep o xs i1) := ⟨HB2.out.drew.trans hb5, arr5, dep, q1, q4, by omega, by have := HI1.out; omega, fun _ _ => ⟨rfl, q2, q3⟩⟩
          clear q1 q2 q3 q4 hb5 hq hk hw hs hl3 hI3 e1 e2
          go_wp2
          refine bodyPost_ret (results_tmp2 rfl _ _ _) rfl ?_
          exact ⟨HRes.out.1, .inr ⟨i, x, rfl, HX.out, rfl, by rw [← HZ.out]; exact HRes.out.2⟩⟩
        · have hc : 0 < gk := by omega
          have hw2 : IntKind.i64.wrap ((gk : Int) - 1) = ((gk - 1 : Nat) : Int) := by rw [IntKind.wrap_i64]; omega
          by_cases hbad : sl1 = 0
          · have hc2 : sl1 = 0 := hbad
            go_wp2_with fail
            refine region_still (by kernel_rfl) (by kernel_rfl) (Veil.out ?_)
            repeat (refine v_step (fun K hK => ?_); go_simp; refine hK _ ?_; clear hK K)
            refine v_nil ⟨?_⟩
            go_wp2_with fail
            go_roundg (gk - 1)
            case measure => omega
            case rel =>
              obtain ⟨arr3, q1, q2⟩ := ItB.set_dep (w := wr) (gk - 1) HI2.out
              have hb3 : But (· = ib) wr (wr.setCell ⟨ib, 66, none⟩ (.int .i64 ((gk - 1 : Nat) : Int))).drew := ((But.refl (· = ib) wr).setCell (p := ⟨ib, 66, none⟩) (.inl rfl) _).drew
              have hst := HI2.out.stay hb3
              have hk := HK.out
              have hd7 := HD7.out
              refine ⟨arr3, by omega, q1, (HW2.out.less (by omega)).keep hst fun j hj => q2 _ (by omega), (HS2.out.less (by omega)).keep fun j hj => q2 _ (by omega), ?_, HL2.out.stay hst, HB2.out.trans hb3⟩
              rw [show dep - (gk - 1) = dep - gk + 1 by omega]
              exact prev_up HDV.out (HSL.out.trans hbad)
          · have hc2 : ¬ sl1 = 0 := hbad
            have HQ : Hid ((P - 1) / 32 ^ (dep - gk + 1) = P / 32 ^ (dep - gk + 1)) := prev_stop HDV.out (by rw [HSL.out]; exact hbad)
            clear hw2
            go_wp2_with fail
            refine region_still (by kernel_rfl) (by kernel_rfl) (Veil.out ?_)
            repeat (refine v_step (fun K hK => ?_); go_simp; refine hK _ ?_; clear hK K)
            refine v_nil ⟨?_⟩
            go_wp2_with fail
            obtain ⟨e1, e2⟩ : (P - 1) = o + i1 ∧ 0 < P + 1 := by have := HP.out; have := HZ.out; omega
            have hq := HQ.out
            have hk := HK.out
            rw [e1] at hq
            have hw : Way wr.drew arr2 dep o (o + i1) gk xs := (HW2.out.turn hk hq).keep (fun _ _ _ h _ => h) fun _ _ => rfl
            have hs : Sl arr2 dep (o + i1) gk := (HS2.out.less (Nat.le_succ _)).turn hk hq
            have hl3 : ListAt wr.drew lb n dep o xs := HL2.out.stay fun _ _ _ h _ => h
            have hI3 : ItB wr.drew ib lb arr2 (i1 : Int) gk := HI2.out
            refine (seek_w ib lb n dep o gk arr2 xs i1 (i1 : Int) wr.drew HI1.out hl3 hI3 (Itr.ne hI3 hl3) hk hw hs).mono ?_
            rintro e w5 ⟨rfl, hb5, arr5, q1, q2, q3, q4⟩
            have HRes : Hid (But (· = ib) w w5 ∧ Itr w5 ib lb n dep o xs i1) := ⟨HB2.out.drew.trans hb5, arr5, dep, q1, q4, by omega, by have := HI1.out; omega, fun _ _ => ⟨rfl, q2, q3⟩⟩
            clear q1 q2 q3 q4 hb5 hq hk hw hs hl3 hI3 e1 e2
            go_wp2
            refine bodyPost_ret (results_tmp2 rfl _ _ _) rfl ?_
            exact ⟨HRes.out.1, .inr ⟨i, x, rfl, HX.out, rfl, by rw [← HZ.out]; exact HRes.out.2⟩⟩

end Go.Proofs.Ytnahipfdnadccaa

namespace Go.Proofs.Ytnahipfdnadccaa
open Go.RowKit

/- a move's kind, its place; the iterator stands at idx over xs: whether it panics, where it goes, what it tells -/
def mvPan (xs : List Int) (k : Nat) (m : Int) : Bool := decide (k = 4) && (decide (m < 0) || decide ((xs.length : Int) ≤ m))
def mvTo (xs : List Int) (idx : Int) (k : Nat) (m : Int) : Int :=
  if k = 0 then (if isDone idx xs.length then idx else idx + 1)
  else if k = 1 then (if isDone idx xs.length then idx else idx - 1)
  else if k = 2 then (if xs.length = 0 then idx else 0)
  else if k = 3 then (if xs.length = 0 then idx else ((xs.length - 1 : Nat) : Int))
  else (if mvPan xs k m then idx else m)
def mvIdx (xs : List Int) (idx : Int) (k : Nat) : Int := if k ≤ 1 then (if isDone idx xs.length then -1 else idx) else 0
def mvVal (xs : List Int) (idx : Int) (k : Nat) : Int := if k ≤ 1 then (if isDone idx xs.length then 0 else (xs[idx.toNat]?).getD 0) else 0

theorem ne_of_ty {w : World} {b b' : Nat} {c c' : Array Value} {t t' : TypeId} {z z' : Nat × Nat} (h : w.heap[b]? = some (.cells c t z)) (h' : w.heap[b']? = some (.cells c' t' z')) (ht : t ≠ t') : ¬ b = b' := fun e => by
  subst e
  rw [h] at h'
  simp only [Option.some.injEq, Obj.cells.injEq] at h'
  exact ht h'.2.1
theorem Itr.block {w : World} {ib lb n D o : Nat} {xs : List Int} {idx : Int} (h : Itr w ib lb n D o xs idx) : ∃ arr, w.heap[ib]? = some (.cells arr 105 (0, 0)) := ⟨_, h.choose_spec.choose_spec.1.1⟩
theorem Itr.of_but {S : Nat → Prop} {w w' : World} {ib lb n D o : Nat} {xs : List Int} {idx : Int} (h : Itr w ib lb n D o xs idx) (hb : But S w w') (hi : ¬ S ib) (hs : Stay w w') : Itr w' ib lb n D o xs idx := by
  obtain ⟨arr, dep, ⟨h1, h2⟩, h3, h4, h5, h6⟩ := h
  exact ⟨arr, dep, ⟨hb.at h1 hi, h2⟩, h3.stay hs, h4, h5, fun a b => ⟨(h6 a b).1, (h6 a b).2.1.keep hs fun _ _ => rfl, (h6 a b).2.2⟩⟩

def MvPost (w : World) (ib sb lb n D o : Nat) (xs : List Int) (idx : Int) (k : Nat) (m : Int) (e : Ending) (w' : World) : Prop :=
  (mvPan xs k m = false ∧ e = .returned (.tuple #[]) ∧ Itr w' ib lb n D o xs (mvTo xs idx k m) ∧
    w'.heap[sb]? = some (.cells #[.int .i64 (mvIdx xs idx k), .int .i64 (mvVal xs idx k), .bool false, .bool false] 59 (0, 0)) ∧ But (fun b => b = ib ∨ b = sb) w w') ∨
  (mvPan xs k m = true ∧ Threw w e w')

theorem seen_set {w : World} {sb : Nat} {a b : Value} {p q : Value} (x y : Value) (h : w.heap[sb]? = some (.cells #[a, b, p, q] 59 (0, 0))) :
    ((w.setCell ⟨sb, 0, none⟩ x).setCell ⟨sb, 1, none⟩ y).heap[sb]? = some (.cells #[x, y, p, q] 59 (0, 0)) := by
  have h1 := heap_setCell_same w sb 0 _ 59 x h
  have h2 := heap_setCell_same _ sb 1 _ 59 y h1
  simpa using h2
theorem stay59 {w : World} {sb : Nat} {c : Array Value} (h : w.heap[sb]? = some (.cells c 59 (0, 0))) {w' : World} (hb : But (· = sb) w w') : Stay w w' := hb.stay fun b c t fz hb h' => by
  subst hb
  rw [h] at h'
  simp only [Option.some.injEq, Obj.cells.injEq] at h'
  rw [← h'.2.1]
  decide

section
variable (mb vb sb ib lb n D o : Nat) (xs : List Int) (idx m : Int) (w : World)
  (hv : w.heap[vb]? = some (.cells #[.pointer (some ⟨ib, 0, none⟩)] 79 (0, 0)))
  (hs : w.heap[sb]? = some (.cells #[.int .i64 0, .int .i64 0, .bool false, .bool false] 59 (0, 0)))
  (hI : Itr w ib lb n D o xs idx)

set_option maxRecDepth 100000 in
set_option maxHeartbeats 1600000 in
include hv hs hI in
theorem mv_next (hm : w.heap[mb]? = some (.cells #[.int .u8 0, .int .i64 m] 54 (0, 0))) :
    Calls Try.prog 38 #[.pointer (some ⟨mb, 0, none⟩), .pointer (some ⟨vb, 0, none⟩), .pointer (some ⟨sb, 0, none⟩)] w (MvPost w ib sb lb n D o xs idx 0 m) := by
  have m0 := cell_at (j := 0) hm rfl
  have v0 := cell_at (j := 0) hv rfl
  have hne : ¬ sb = ib := ne_of_ty hs hI.block.choose_spec (by decide)
  have HI := Lib.hid hI
  have HS := Lib.hid hs
  clear hI hs hv hm
  go_enter Try.func38, Try.ntmps38
  go_wp2_with fail
  refine (next_w ib lb n D o xs idx w HI.out).mono ?_
  rintro e w' ⟨hb, hcase⟩
  have hs' := hb.at HS.out hne
  have HB := Lib.hid hb
  have HS' := Lib.hid hs'
  have s0 := cell_at (j := 0) hs' rfl
  have s1 := cell_at (j := 1) hs' rfl
  have g0 : w'.frozen? ⟨sb, 0, none⟩ = false := frozen_of_row _ _ _ _ _ hs'
  have g1 : w'.frozen? ⟨sb, 1, none⟩ = false := frozen_of_row _ _ _ _ _ hs'
  have hfin : ∀ (a b : Int) (idx' : Int), Itr w' ib lb n D o xs idx' → Itr ((w'.setCell ⟨sb, 0, none⟩ (.int .i64 a)).setCell ⟨sb, 1, none⟩ (.int .i64 b)) ib lb n D o xs idx' ∧
      But (fun b => b = ib ∨ b = sb) w ((w'.setCell ⟨sb, 0, none⟩ (.int .i64 a)).setCell ⟨sb, 1, none⟩ (.int .i64 b)) := by
    intro a b idx' h
    have hb2 : But (· = sb) w' ((w'.setCell ⟨sb, 0, none⟩ (.int .i64 a)).setCell ⟨sb, 1, none⟩ (.int .i64 b)) := ((But.refl (· = sb) w').setCell (p := ⟨sb, 0, none⟩) (.inl rfl) _).setCell (p := ⟨sb, 1, none⟩) (.inl rfl) _
    exact ⟨h.of_but hb2 (fun e => hne e.symm) (stay59 HS'.out hb2), (HB.out.wider fun _ _ h => .inl h).trans (hb2.wider fun _ _ h => .inr h)⟩
  have HF := Lib.hid hfin
  clear hb hs' m0 v0 hfin
  rcases hcase with ⟨hd, rfl, hi⟩ | ⟨i, x, rfl, hx, rfl, hi⟩
  · have H := Lib.hid (HF.out (-1) 0 _ hi)
    have hd' := Lib.hid hd
    clear hi hd
    go_wp2_with fail
    refine bodyPost_end (results_none rfl _ _ _) rfl ?_
    refine .inl ⟨by simp [mvPan], rfl, ?_, ?_, H.out.2⟩
    · simp only [mvTo, hd'.out, if_true]; exact H.out.1
    · simp only [mvIdx, mvVal, hd'.out, if_true, Nat.zero_le]; exact seen_set _ _ HS'.out
  · have H := Lib.hid (HF.out i x _ hi)
    have hx' := Lib.hid hx
    have hd : Hid (isDone (i : Int) xs.length = false) := by
      have := (List.getElem?_eq_some_iff.1 hx).1
      show _ = _
      simp [isDone]; omega
    clear hi hx
    go_wp2_with fail
    refine bodyPost_end (results_none rfl _ _ _) rfl ?_
    refine .inl ⟨by simp [mvPan], rfl, ?_, ?_, H.out.2⟩
    · simp only [mvTo, hd.out, if_true, Bool.false_eq_true, if_false]; exact H.out.1
    · simp only [mvIdx, mvVal, hd.out, if_true, Nat.zero_le, Bool.false_eq_true, if_false, Int.toNat_natCast, hx'.out, Option.getD_some]; exact seen_set _ _ HS'.out

set_option maxRecDepth 100000 in
set_option maxHeartbeats 1600000 in
include hv hs hI in
theorem mv_prev (hm : w.heap[mb]? = some (.cells #[.int .u8 1, .int .i64 m] 54 (0, 0))) :
    Calls Try.prog 38 #[.pointer (some ⟨mb, 0, none⟩), .pointer (some ⟨vb, 0, none⟩), .pointer (some ⟨sb, 0, none⟩)] w (MvPost w ib sb lb n D o xs idx 1 m) := by
  have m0 := cell_at (j := 0) hm rfl
  have v0 := cell_at (j := 0) hv rfl
  have hne : ¬ sb = ib := ne_of_ty hs hI.block.choose_spec (by decide)
  have HI := Lib.hid hI
  have HS := Lib.hid hs
  clear hI hs hv hm
  go_enter Try.func38, Try.ntmps38
  go_wp2_with fail
  refine (prev_w ib lb n D o xs idx w HI.out).mono ?_
  rintro e w' ⟨hb, hcase⟩
  have hs' := hb.at HS.out hne
  have HB := Lib.hid hb
  have HS' := Lib.hid hs'
  have s0 := cell_at (j := 0) hs' rfl
  have s1 := cell_at (j := 1) hs' rfl
  have g0 : w'.frozen? ⟨sb, 0, none⟩ = false := frozen_of_row _ _ _ _ _ hs'
  have g1 : w'.frozen? ⟨sb, 1, none⟩ = false := frozen_of_row _ _ _ _ _ hs'
  have hfin : ∀ (a b : Int) (idx' : Int), Itr w' ib lb n D o xs idx' → Itr ((w'.setCell ⟨sb, 0, none⟩ (.int .i64 a)).setCell ⟨sb, 1, none⟩ (.int .i64 b)) ib lb n D o xs idx' ∧
      But (fun b => b = ib ∨ b = sb) w ((w'.setCell ⟨sb, 0, none⟩ (.int .i64 a)).setCell ⟨sb, 1, none⟩ (.int .i64 b)) := by
    intro a b idx' h
    have hb2 : But (· = sb) w' ((w'.setCell ⟨sb, 0, none⟩ (.int .i64 a)).setCell ⟨sb, 1, none⟩ (.int .i64 b)) := ((But.refl (· = sb) w').setCell (p := ⟨sb, 0, none⟩) (.inl rfl) _).setCell (p := ⟨sb, 1, none⟩) (.inl rfl) _
    exact ⟨h.of_but hb2 (fun e => hne e.symm) (stay59 HS'.out hb2), (HB.out.wider fun _ _ h => .inl h).trans (hb2.wider fun _ _ h => .inr h)⟩
  have HF := Lib.hid hfin
  clear hb hs' m0 v0 hfin
  rcases hcase with ⟨hd, rfl, hi⟩ | ⟨i, x, rfl, hx, rfl, hi⟩
  · have H := Lib.hid (HF.out (-1) 0 _ hi)
    have hd' := Lib.hid hd
    clear hi hd
    go_wp2_with fail
    refine bodyPost_end (results_none rfl _ _ _) rfl ?_
    refine .inl ⟨by simp [mvPan], rfl, ?_, ?_, H.out.2⟩
    · simp only [mvTo, hd'.out, if_true, if_neg (show ¬ (1 : Nat) = 0 by decide)]; exact H.out.1
    · simp only [mvIdx, mvVal, hd'.out, if_true, Nat.le_refl]; exact seen_set _ _ HS'.out
  · have H := Lib.hid (HF.out i x _ hi)
    have hx' := Lib.hid hx
    have hd : Hid (isDone (i : Int) xs.length = false) := by
      have := (List.getElem?_eq_some_iff.1 hx).1
      show _ = _
      simp [isDone]; omega
    clear hi hx
    go_wp2_with fail
    refine bodyPost_end (results_none rfl _ _ _) rfl ?_
    refine .inl ⟨by simp [mvPan], rfl, ?_, ?_, H.out.2⟩
    · simp only [mvTo, hd.out, if_true, Bool.false_eq_true, if_false, if_neg (show ¬ (1 : Nat) = 0 by decide)]; exact H.out.1
    · simp only [mvIdx, mvVal, hd.out, if_true, Nat.le_refl, Bool.false_eq_true, if_false, Int.toNat_natCast, hx'.out, Option.getD_some]; exact seen_set _ _ HS'.out

set_option maxRecDepth 100000 in
set_option maxHeartbeats 1600000 in
include hv hs hI in
theorem mv_first (hm : w.heap[mb]? = some (.cells #[.int .u8 2, .int .i64 m] 54 (0, 0))) :
    Calls Try.prog 38 #[.pointer (some ⟨mb, 0, none⟩), .pointer (some ⟨vb, 0, none⟩), .pointer (some ⟨sb, 0, none⟩)] w (MvPost w ib sb lb n D o xs idx 2 m) := by
  have m0 := cell_at (j := 0) hm rfl
  have v0 := cell_at (j := 0) hv rfl
  have hne : ¬ sb = ib := ne_of_ty hs hI.block.choose_spec (by decide)
  have HI := Lib.hid hI
  have HS := Lib.hid hs
  obtain ⟨arr, dep, hB, hl, hrest⟩ := hI
  have HC := Lib.hid (itfirst_w ib lb arr idx dep n D o xs w hB hl)
  clear hs hv hm hB hl hrest
  go_enter Try.func38, Try.ntmps38
  go_wp2_with fail
  refine HC.out.mono ?_
  rintro e w' ⟨rfl, hb, hcase⟩
  have H := Lib.hid (And.intro hb hcase)
  clear hb hcase m0 v0 HC
  go_wp2_with fail
  refine bodyPost_end (results_none rfl _ _ _) rfl ?_
  obtain ⟨hb, hcase⟩ := H.out
  refine .inl ⟨by simp [mvPan], rfl, ?_, hb.at HS.out hne, hb.wider fun _ _ h => .inl h⟩
  rcases hcase with ⟨h0, rfl⟩ | ⟨h0, h1⟩
  · simp [mvTo, h0]; exact HI.out
  · have : ¬ xs.length = 0 := by omega
    simp only [mvTo, if_neg this]
    exact h1

set_option maxRecDepth 100000 in
set_option maxHeartbeats 1600000 in
include hv hs hI in
theorem mv_last (hm : w.heap[mb]? = some (.cells #[.int .u8 3, .int .i64 m] 54 (0, 0))) :
    Calls Try.prog 38 #[.pointer (some ⟨mb, 0, none⟩), .pointer (some ⟨vb, 0, none⟩), .pointer (some ⟨sb, 0, none⟩)] w (MvPost w ib sb lb n D o xs idx 3 m) := by
  have m0 := cell_at (j := 0) hm rfl
  have v0 := cell_at (j := 0) hv rfl
  have hne : ¬ sb = ib := ne_of_ty hs hI.block.choose_spec (by decide)
  have HI := Lib.hid hI
  have HS := Lib.hid hs
  obtain ⟨arr, dep, hB, hl, hrest⟩ := hI
  have HC := Lib.hid (itlast_w ib lb arr idx dep n D o xs w hB hl)
  clear hs hv hm hB hl hrest
  go_enter Try.func38, Try.ntmps38
  go_wp2_with fail
  refine HC.out.mono ?_
  rintro e w' ⟨rfl, hb, hcase⟩
  have H := Lib.hid (And.intro hb hcase)
  clear hb hcase m0 v0 HC
  go_wp2_with fail
  refine bodyPost_end (results_none rfl _ _ _) rfl ?_
  obtain ⟨hb, hcase⟩ := H.out
  refine .inl ⟨by simp [mvPan], rfl, ?_, hb.at HS.out hne, hb.wider fun _ _ h => .inl h⟩
  rcases hcase with ⟨h0, rfl⟩ | ⟨h0, h1⟩
  · simp [mvTo, h0]; exact HI.out
  · have : ¬ xs.length = 0 := by omega
    simp only [mvTo, if_neg this]
    exact h1

set_option maxRecDepth 100000 in
set_option maxHeartbeats 1600000 in
include hv hs hI in
theorem mv_seek (hm : w.heap[mb]? = some (.cells #[.int .u8 4, .int .i64 m] 54 (0, 0))) :
    Calls Try.prog 38 #[.pointer (some ⟨mb, 0, none⟩), .pointer (some ⟨vb, 0, none⟩), .pointer (some ⟨sb, 0, none⟩)] w (MvPost w ib sb lb n D o xs idx 4 m) := by
  have m0 := cell_at (j := 0) hm rfl
  have m1 := cell_at (j := 1) hm rfl
  have v0 := cell_at (j := 0) hv rfl
  have hne : ¬ sb = ib := ne_of_ty hs hI.block.choose_spec (by decide)
  have HS := Lib.hid hs
  obtain ⟨arr, dep, hB, hl, hrest⟩ := hI
  have HBL := Lib.hid (And.intro hB hl)
  clear hs hv hm hB hl hrest
  by_cases hp : m < 0 ∨ (xs.length : Int) ≤ m
  · have HP := Lib.hid hp
    clear hp
    go_enter Try.func38, Try.ntmps38
    go_wp2_with fail
    refine (itseek_panics ib lb arr idx dep n D o m xs w HBL.out.1 HBL.out.2 HP.out).mono ?_
    rintro e w' ⟨rfl, v, rfl⟩
    exact ⟨rfl, .inr ⟨by simp [mvPan]; exact HP.out, rfl, v, rfl⟩⟩
  · obtain ⟨i, rfl⟩ : ∃ i : Nat, m = (i : Int) := ⟨m.toNat, by omega⟩
    have HP : Hid (i < xs.length) := by show _ < _; omega
    clear hp
    go_enter Try.func38, Try.ntmps38
    go_wp2_with fail
    refine (itseek_w ib lb arr idx dep n D o i xs w HBL.out.1 HBL.out.2 HP.out).mono ?_
    rintro e w' ⟨rfl, h1, h2⟩
    have H := Lib.hid (And.intro h1 h2)
    clear h1 h2 m0 m1 v0
    go_wp2_with fail
    refine bodyPost_end (results_none rfl _ _ _) rfl ?_
    have hpan : mvPan xs 4 (i : Int) = false := by simp [mvPan]; exact HP.out
    refine .inl ⟨hpan, rfl, ?_, H.out.2.at HS.out hne, H.out.2.wider fun _ _ h => .inl h⟩
    have : mvTo xs idx 4 (i : Int) = (i : Int) := by simp [mvTo, hpan]
    rw [this]
    exact H.out.1

include hv hs hI in
theorem mv_any (k : Nat) (hk : k ≤ 4) (hm : w.heap[mb]? = some (.cells #[.int .u8 (k : Int), .int .i64 m] 54 (0, 0))) :
    Calls Try.prog 38 #[.pointer (some ⟨mb, 0, none⟩), .pointer (some ⟨vb, 0, none⟩), .pointer (some ⟨sb, 0, none⟩)] w (MvPost w ib sb lb n D o xs idx k m) := by
  match k, hk with
  | 0, _ => exact mv_next mb vb sb ib lb n D o xs idx m w hv hs hI hm
  | 1, _ => exact mv_prev mb vb sb ib lb n D o xs idx m w hv hs hI hm
  | 2, _ => exact mv_first mb vb sb ib lb n D o xs idx m w hv hs hI hm
  | 3, _ => exact mv_last mb vb sb ib lb n D o xs idx m w hv hs hI hm
  | 4, _ => exact mv_seek mb vb sb ib lb n D o xs idx m w hv hs hI hm
end

end Go.Proofs.Ytnahipfdnadccaa

namespace Go.Proofs.Ytnahipfdnadccaa
open Go.RowKit

set_option maxRecDepth 100000 in
set_option maxHeartbeats 400000 in
/-- thrown of a closure: whether the closure panics, what it does -/
theorem thrown_w38 (cap : Array Value) (w : World) (R : Bool → World → Prop)
    (h : Calls Try.prog 38 cap (w.alloc (.cells #[.bool false] 4)) fun e w' => w'.cell? ⟨w.heap.size, 0, none⟩ = some (.bool false) ∧ w'.frozen? ⟨w.heap.size, 0, none⟩ = false ∧
      ((e = .returned (.tuple #[]) ∧ R false w') ∨ ∃ t v, e = .panicked [{ v := .iface t v, recovered := false }] ∧ R true w')) :
    Calls Try.prog 37 #[.func (.func 38) #[] cap] w fun e w'' => ∃ b w', e = .returned (.bool b) ∧ R b w' ∧ ((b = false ∧ w'' = (w'.setCell ⟨w.heap.size, 0, none⟩ (.bool false)).setCell ⟨w.heap.size, 0, none⟩ (.bool false)) ∨ (b = true ∧ w'' = w'.setCell ⟨w.heap.size, 0, none⟩ (.bool true))) := by
  have hmf : ∀ (fn : Fn) (first cap : Array Value) (w : World), (Instr.makeFunc fn first cap).run Try.prog w = .ok (.func fn first cap) w := fun _ _ _ _ => rfl
  go_enter_defers Try.func37, Try.ntmps37
  go_wp2_with fail
  refine h.mono ?_
  rintro e w' ⟨h1, h2, ⟨rfl, h3⟩ | ⟨t, v, rfl, h3⟩⟩
  · have H3 := Lib.hid h3; clear h3 h
    go_wp2_with fail
    refine leaves_cons (f := 63) (args := #[.pointer (some ⟨w.heap.size, 0, none⟩)]) (by simp) (by simp [go_sem]) ?_
    refine (catch_idle ⟨w.heap.size, 0, none⟩ false _ ?_ ?_).mono ?_
    · simp [go_sem, h1]
    · simp [go_sem, h2]
    rintro e u' w'' ⟨rfl, rfl, rfl⟩
    have hl := World.cell?_setCell_same (v := .bool false) _ _ (World.cell?_setCell_same (v := .bool false) _ _ h1)
    simp [Leaves, settle, results, Try.results37, go_sem, hl]
    exact ⟨_, H3.out, rfl⟩
  · have H3 := Lib.hid h3; clear h3 h
    refine leaves_cons (f := 63) (args := #[.pointer (some ⟨w.heap.size, 0, none⟩)]) (by simp) (by simp [go_sem]) ?_
    refine (catch_panic ⟨w.heap.size, 0, none⟩ false _ _ [] _ ?_ ?_).mono ?_
    · simp [go_sem, h1]
    · simp [go_sem, h2]
    rintro e u' w'' ⟨rfl, rfl, rfl⟩
    have hl := World.cell?_setCell_same (v := .bool true) _ _ h1
    simp [Leaves, settle, results, Try.results37, go_sem, hl]
    exact ⟨_, H3.out, rfl⟩

theorem mv_stays {w : World} {ib sb lb n D o : Nat} {xs : List Int} {idx : Int} {a : Array Value} {_S : Nat → Prop} (hI : Itr w ib lb n D o xs idx) (hs : w.heap[sb]? = some (.cells a 59 (0, 0))) {w' : World} (hb : But (fun b => b = ib ∨ b = sb) w w') : Stay w w' :=
  hb.stay fun b c t fz hb h' => by
    rcases hb with rfl | rfl
    · obtain ⟨arr, hblk⟩ := hI.block
      rw [hblk] at h'
      simp only [Option.some.injEq, Obj.cells.injEq] at h'
      rw [← h'.2.1]
      decide
    · rw [hs] at h'
      simp only [Option.some.injEq, Obj.cells.injEq] at h'
      rw [← h'.2.1]
      decide

theorem mvTo_pan {xs : List Int} {idx m : Int} {k : Nat} (h : mvPan xs k m = true) : mvTo xs idx k m = idx ∧ mvIdx xs idx k = 0 ∧ mvVal xs idx k = 0 := by
  have : k = 4 := by
    simp only [mvPan, Bool.and_eq_true, decide_eq_true_eq] at h
    exact h.1
  subst this
  simp [mvTo, mvIdx, mvVal, h]

theorem thrown_mv (mb vb sb ib lb n D o : Nat) (xs : List Int) (idx m : Int) (k : Nat) (hk : k ≤ 4) (w : World)
    (hm : w.heap[mb]? = some (.cells #[.int .u8 (k : Int), .int .i64 m] 54 (0, 0)))
    (hv : w.heap[vb]? = some (.cells #[.pointer (some ⟨ib, 0, none⟩)] 79 (0, 0)))
    (hs : w.heap[sb]? = some (.cells #[.int .i64 0, .int .i64 0, .bool false, .bool false] 59 (0, 0)))
    (hI : Itr w ib lb n D o xs idx) :
    Calls Try.prog 37 #[.func (.func 38) #[] #[.pointer (some ⟨mb, 0, none⟩), .pointer (some ⟨vb, 0, none⟩), .pointer (some ⟨sb, 0, none⟩)]] w fun e w' =>
      e = .returned (.bool (mvPan xs k m)) ∧ Itr w' ib lb n D o xs (mvTo xs idx k m) ∧
        w'.heap[sb]? = some (.cells #[.int .i64 (mvIdx xs idx k), .int .i64 (mvVal xs idx k), .bool false, .bool false] 59 (0, 0)) ∧ But (fun b => b = ib ∨ b = sb) w w' := by
  have hb : But (fun _ => False) w (w.alloc (.cells #[.bool false] 4)) := (But.refl _ w).alloc _
  have hst : Stay w (w.alloc (.cells #[.bool false] 4)) := hb.stay fun _ _ _ _ h => h.elim
  have hI1 := hI.of_but hb id hst
  have hc := mv_any mb vb sb ib lb n D o xs idx m _ (hb.at hv id) (hb.at hs id) hI1 k hk (hb.at hm id)
  have hL : (w.alloc (.cells #[.bool false] 4)).heap[w.heap.size]? = some (.cells #[.bool false] 4 (0, 0)) := heap_alloc_last w _
  have hiL : ¬ w.heap.size = ib := fun e => by have := lt_of_block hI.block.choose_spec; omega
  have hsL : ¬ w.heap.size = sb := fun e => by have := lt_of_block hs; omega
  have hbb : But (fun b => b = ib ∨ b = sb) w (w.alloc (.cells #[.bool false] 4)) := hb.wider fun _ _ h => h.elim
  refine (thrown_w38 _ w (fun b w' => b = mvPan xs k m ∧ Itr w' ib lb n D o xs (mvTo xs idx k m) ∧ w'.heap[sb]? = some (.cells #[.int .i64 (mvIdx xs idx k), .int .i64 (mvVal xs idx k), .bool false, .bool false] 59 (0, 0)) ∧ But (fun b => b = ib ∨ b = sb) (w.alloc (.cells #[.bool false] 4)) w') (hc.mono ?_)).mono ?_
  · rintro e w' (⟨h1, h2, h3, h4, h5⟩ | ⟨h1, rfl, v, rfl⟩)
    · have := h5.at hL (by rintro (h | h); exact hiL h; exact hsL h)
      exact ⟨cell_at this rfl, frozen_of_row _ _ _ _ _ this, .inl ⟨h2, h1.symm, h3, h4, h5⟩⟩
    · obtain ⟨e1, e2, e3⟩ := mvTo_pan (idx := idx) h1
      rw [e1, e2, e3]
      exact ⟨cell_at hL rfl, frozen_of_row _ _ _ _ _ hL, .inr ⟨_, _, rfl, h1.symm, hI1, hb.at hs id, But.refl _ _⟩⟩
  · have key : ∀ (w1 w2 : World), But (· = w.heap.size) w1 w2 → w1.heap[w.heap.size]? = some (.cells #[.bool false] 4 (0, 0)) → Itr w1 ib lb n D o xs (mvTo xs idx k m) →
        w1.heap[sb]? = some (.cells #[.int .i64 (mvIdx xs idx k), .int .i64 (mvVal xs idx k), .bool false, .bool false] 59 (0, 0)) → But (fun b => b = ib ∨ b = sb) (w.alloc (.cells #[.bool false] 4)) w1 →
        Itr w2 ib lb n D o xs (mvTo xs idx k m) ∧ w2.heap[sb]? = some (.cells #[.int .i64 (mvIdx xs idx k), .int .i64 (mvVal xs idx k), .bool false, .bool false] 59 (0, 0)) ∧ But (fun b => b = ib ∨ b = sb) w w2 := by
      intro w1 w2 g hL1 h2 h3 h4
      have hst2 : Stay w1 w2 := g.stay fun b c t fz hb h' => by
        subst hb
        rw [hL1] at h'
        simp only [Option.some.injEq, Obj.cells.injEq] at h'
        rw [← h'.2.1]
        decide
      refine ⟨h2.of_but g (fun e => hiL e.symm) hst2, g.at h3 (fun e => hsL e.symm), ?_⟩
      have h6 := hbb.trans h4
      exact ⟨g.os.trans h6.os, g.tape.trans h6.tape, g.output.trans h6.output, Nat.le_trans h6.size g.size, fun i hi hn => (g.block i (Nat.lt_of_lt_of_le hi h6.size) (fun e => by omega)).trans (h6.block i hi hn)⟩
    rintro e w'' ⟨b, w', rfl, ⟨rfl, h2, h3, h4⟩, h⟩
    have hL' := h4.at hL (by rintro (h | h); exact hiL h; exact hsL h)
    rcases h with ⟨hb0, rfl⟩ | ⟨hb0, rfl⟩
    · exact ⟨rfl, key w' _ (((But.refl (· = w.heap.size) w').setCell (p := ⟨w.heap.size, 0, none⟩) (.inl rfl) _).setCell (p := ⟨w.heap.size, 0, none⟩) (.inl rfl) _) hL' h2 h3 h4⟩
    · exact ⟨rfl, key w' _ ((But.refl (· = w.heap.size) w').setCell (p := ⟨w.heap.size, 0, none⟩) (.inl rfl) _) hL' h2 h3 h4⟩

end Go.Proofs.Ytnahipfdnadccaa
