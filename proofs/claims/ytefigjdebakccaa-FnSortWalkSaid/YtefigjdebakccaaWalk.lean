/- The walk over the law FnSortWalk. -/
import Derived.Test.YtefigjdebakccaaWlkE
namespace Go.Proofs.Ytefigjdebakccaa
open Go.RowKit

/-- one step that moves an iterator, as it lies in memory -/
theorem one_rst (w : World) (ma : Option Addr) (ml mc : Nat) (ms : List Mv) (hm : MovesV w (.slice ma ml mc) ms) : RStpsV (w.alloc (.cells #[.int .u8 6, .int .i64 0, .int .i64 0, .int .i64 0, .slice ma ml mc] 27)) (.slice (some ⟨w.heap.size, 0, none⟩) 1 1) [⟨6, 0, 0, 0, ms⟩] := by
  have h := heap_alloc_last w (.cells #[.int .u8 6, .int .i64 0, .int .i64 0, .int .i64 0, .slice ma ml mc] 27)
  refine ⟨_, 1, rfl, nofun, fun i s hs => ⟨w.heap.size, 0, .slice ma ml mc, rfl, ?_⟩⟩
  match i, hs with
  | 0, hs =>
    cases hs
    exact ⟨cell_at h rfl, cell_at h rfl, cell_at h rfl, cell_at h rfl, cell_at h rfl, hm.below ((Below.refl _ _).alloc (Nat.le_refl _) _)⟩
  | i + 1, hs => simp at hs

set_option maxRecDepth 100000 in
set_option maxHeartbeats 3200000 in
theorem lwalk_w (o : Nat) (u : Value) (xs : List Int) (mv : Value) (ms : List Mv) (w : World) (hu : RdI w u xs) (hm : MovesV w mv ms) : Calls Try.prog 9 #[.int .u8 (o : Int), u, mv] w fun e w' => e = .returned (.bool true) ∧ Below w.heap.size w w' := by
  have HM := Lib.hid hm
  obtain ⟨ma, mc, rfl, -⟩ := hm
  obtain ⟨ml, hml⟩ : ∃ m, m = ms.length := ⟨_, rfl⟩
  rw [← hml] at HM ⊢
  have HML := Lib.hid hml
  clear hml
  have HU := Lib.hid hu
  obtain ⟨ua, uc, rfl, -⟩ := hu
  obtain ⟨n, hn⟩ : ∃ n, n = xs.length := ⟨_, rfl⟩
  rw [← hn] at HU ⊢
  have HN := Lib.hid hn
  clear hn
  go_enter Try.func9, Try.ntmps9
  by_cases c1 : 2147483647 < n
  · have d1 : decide ((2147483647 : Int) < (n : Int)) = true := by simp; omega
    go_wp2_with fail
    go_ret
    exact ⟨rfl, Below.refl _ _⟩
  have d1 : decide ((2147483647 : Int) < (n : Int)) = false := by simp; omega
  by_cases c3 : 2147483647 < ml
  · have d3 : decide ((2147483647 : Int) < (ml : Int)) = true := by simp; omega
    go_wp2_with fail
    go_ret
    exact ⟨rfl, Below.refl _ _⟩
  have d3 : decide ((2147483647 : Int) < (ml : Int)) = false := by simp; omega
  by_cases c0 : 3 < o
  · have d0 : decide ((3 : Int) < (o : Int)) = true := by simp; omega
    go_wp2_with fail
    refine (awake_w w).mono ?_
    rintro e wa ⟨rfl, hba⟩
    have HBA := Lib.hid (hba)
    clear hba
    go_wp2_with fail
    refine bodyPost_ret (results_tmp rfl _ _ _) rfl ?_
    exact ⟨rfl, HBA.out⟩
  have d0 : decide ((3 : Int) < (o : Int)) = false := by simp; omega
  have HKS := Lib.hid (sortKeys_w _ xs 300 w HU.out (by rw [← HN.out]; omega))
  by_cases c2 : KeysOk xs 300
  case neg =>
    have d2 : decide (KeysOk xs 300) = false := decide_eq_false c2
    rw [d2] at HKS
    clear c2 d2
    go_wp2_with fail
    refine HKS.out.mono ?_
    rintro e w1 ⟨rfl, rfl⟩
    go_wp2_with fail
    refine (awake_w w).mono ?_
    rintro e wa ⟨rfl, hba⟩
    have HBA := Lib.hid (hba)
    clear hba
    go_wp2_with fail
    refine bodyPost_ret (results_tmp rfl _ _ _) rfl ?_
    exact ⟨rfl, HBA.out⟩
  have d2 : decide (KeysOk xs 300) = true := decide_eq_true c2
  rw [d2] at HKS
  have hn3 : n ≤ 300 := by rw [HN.out]; exact c2.2
  have HN3 := Lib.hid hn3
  clear c0 c1 c2 c3 d2 hn3
  have HA1 : Hid (Below w.heap.size w (w.alloc (.cells #[.int .u8 6, .int .i64 0, .int .i64 0, .int .i64 0, .slice ma ml mc] 27))) := (Below.refl _ _).alloc (Nat.le_refl _) _
  have HSR := Lib.hid (sright_w o _ [⟨6, 0, 0, 0, ms⟩] _ (one_rst w ma ml mc ms HM.out) (by simp))
  go_wp2_with fail
  refine HKS.out.mono ?_
  rintro e w1 ⟨rfl, rfl⟩
  clear HKS
  go_wp2_with fail
  refine HSR.out.mono ?_
  rintro e w2 ⟨b, rfl, hb, hb2⟩
  have HB2 := Lib.hid (HA1.out.trans (hb2.mono HA1.out.size))
  clear hb2 HSR HA1
  cases b with
  | false =>
    clear hb
    go_wp2_with fail
    refine (awake_w w2).mono ?_
    rintro e wa ⟨rfl, hba⟩
    have HBA := Lib.hid (HB2.out.trans (hba.mono HB2.out.size))
    clear hba
    go_wp2_with fail
    refine bodyPost_ret (results_tmp rfl _ _ _) rfl ?_
    exact ⟨rfl, HBA.out⟩
  | true =>
    obtain ⟨-, -, ⟨-, -, -, -, -, hm40, hm5, -⟩, -⟩ := hb rfl
    have HM40 : Hid (ml ≤ 40) := by show ml ≤ 40; rw [HML.out]; exact hm40
    have HM5 : Hid (∀ m ∈ ms, m.1 ≤ 5) := fun m h => (hm5 m h).1
    clear hb hm40 hm5
    have hA3 : Below w2.heap.size w2 (w2.alloc (.cells #[.int .u8 6, .int .i64 0, .int .i64 0, .int .i64 0, .slice ma ml mc] 27)) := (Below.refl _ _).alloc (Nat.le_refl _) _
    have HB3 : Hid (Below w.heap.size w (w2.alloc (.cells #[.int .u8 6, .int .i64 0, .int .i64 0, .int .i64 0, .slice ma ml mc] 27))) := HB2.out.trans (hA3.mono HB2.out.size)
    have HST : StpsV (w2.alloc (.cells #[.int .u8 6, .int .i64 0, .int .i64 0, .int .i64 0, .slice ma ml mc] 27)) (.slice (some ⟨w2.heap.size, 0, none⟩) 1 1) [⟨6, 0, 0, 0, ms⟩] := by
      obtain ⟨a, cap, h1, -, h2⟩ := one_rst w2 ma ml mc ms (HM.out.below HB2.out)
      refine ⟨a, cap, h1, fun i s hs => ?_⟩
      match i, hs with
      | 0, hs => cases hs; exact h2 0 _ rfl
      | i + 1, hs => simp at hs
    have HASK := Lib.hid (ask_w o _ xs _ [⟨6, 0, 0, 0, ms⟩] _ (HU.out.below HB3.out) (by rw [← HN.out]; have := HN3.out; omega) HST (by simp) (fun s hs => by
      rw [List.mem_singleton.1 hs]
      exact ⟨show 2 ≤ 6 by decide, show 6 ≤ 6 by decide, HM5.out, by show ms.length ≤ 100000; rw [← HML.out]; have := HM40.out; omega⟩))
    clear hA3 HST
    go_wp2_with fail
    refine HASK.out.mono ?_
    rintro e w3 ⟨t, rfl, ht, hb3⟩
    have HB4 := Lib.hid (HB3.out.trans (hb3.mono HB3.out.size))
    obtain ⟨ta, tc, rfl, hread⟩ := ht
    obtain ⟨g, q, ks, vs, ss, hta, -, -, -, -, c4, -, -, hss⟩ := hread 0 _ rfl
    subst hta
    rw [show q + 0 * 5 + 4 = q + 4 by omega] at c4
    obtain ⟨F, hF⟩ : ∃ F, F = fill (ltO o) 0 xs [] := ⟨_, rfl⟩
    have hsn : (tell (ltO o) (fill (ltO o) 0 xs []) ⟨6, 0, 0, 0, ms⟩).seen = seens (ltO o) F (pos F 0) ms := by rw [hF]; rfl
    rw [hsn] at hss
    have HSS := Lib.hid hss
    have HF := Lib.hid hF
    have HSO := Lib.hid (sorted_w o _ xs w3 (HU.out.below HB4.out) (by rw [← HN.out]; have := HN3.out; omega))
    rw [← hF] at HSO
    clear hread hss hsn hF hb3 HASK HB3
    go_wp2_with fail
    refine HSO.out.mono ?_
    rintro e w4 ⟨v, rfl, hpt, hb4⟩
    have HB5 := Lib.hid (HB4.out.trans (hb4.mono HB4.out.size))
    have hfs : Srt (ltO o) F := by rw [HF.out]; exact fill_srt (ord_ltO o) xs 0 List.Pairwise.nil
    have hfl : F.length ≤ 300 := by
      rw [HF.out]
      have h1 := fill_len (ord_ltO o) xs 0 (es := []) List.Pairwise.nil
      have := HN3.out
      rw [← HN.out, List.length_nil] at h1
      omega
    have hpw := pwalk_w o F hfs (by omega) ms HM5.out (by rw [← HML.out]; have := HM40.out; omega) (.slice ma ml mc) v w4 (HM.out.below HB5.out) hpt.pv
    have HPW := Lib.hid hpw
    obtain ⟨ka, kc, va, vc, rfl, -⟩ := hpt
    obtain ⟨fl, hfll⟩ : ∃ m, m = F.length := ⟨_, rfl⟩
    rw [← hfll] at HPW ⊢
    replace c4 := bcell hb4 c4
    have HS4 := Lib.hid (HSS.out.kb (T := 0) (by decide) (KB.of_below 0 hb4))
    clear hpw hb4 HSO hfs hfl hfll HSS
    go_wp2_with fail
    refine HPW.out.mono ?_
    rintro e w5 ⟨sv, rfl, hsv, hb5⟩
    have HSP : Hid (SP w5 sv (seens (ltO o) F (pos F 0) ms)) := SP.of_own (by rw [seens_len]) hsv
    have HB6 := Lib.hid (HB5.out.trans (hb5.mono HB5.out.size))
    have HS5 := Lib.hid (HS4.out.kb (T := 0) (by decide) (KB.of_below 0 hb5))
    replace c4 := bcell hb5 c4
    have HEQ := Lib.hid (eqf33_w ss sv (seens (ltO o) F (pos F 0) ms) (by rw [seens_len, ← HML.out]; have := HM40.out; omega) w5 HS5.out HSP.out)
    have os := HS5.out.one
    clear hsv hb5 HPW HS4
    go_wp2_with fail
    refine HEQ.out.mono ?_
    rintro e w6 ⟨rfl, hb6⟩
    have HB7 := Lib.hid (HB6.out.trans (hb6.mono HB6.out.size))
    clear hb6 HEQ c4 os
    go_wp2_with fail
    refine (awake_w w6).mono ?_
    rintro e wa ⟨rfl, hba⟩
    have HBA := Lib.hid (HB7.out.trans (hba.mono HB7.out.size))
    clear hba
    go_wp2_with fail
    refine bodyPost_ret (results_tmp rfl _ _ _) rfl ?_
    exact ⟨rfl, HBA.out⟩
theorem lwalk_c (c : Int) (hc : 0 ≤ c) (u : Value) (xs : List Int) (mv : Value) (ms : List Mv) (w : World) (hu : RdI w u xs) (hm : MovesV w mv ms) : Calls Try.prog 9 #[.int .u8 c, u, mv] w fun e w' => e = .returned (.bool true) ∧ Below w.heap.size w w' := by
  obtain ⟨o, rfl⟩ : ∃ o : Nat, c = (o : Int) := ⟨c.toNat, by omega⟩
  exact lwalk_w o u xs mv ms w hu hm
end Go.Proofs.Ytefigjdebakccaa
