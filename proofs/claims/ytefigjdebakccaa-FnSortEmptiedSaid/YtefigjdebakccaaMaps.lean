/- The walk over the law FnSortMaps. -/
import Derived.Test.YtefigjdebakccaaEqf
namespace Go.Proofs.Ytefigjdebakccaa
open Go.RowKit

theorem tell_short (o : Nat) (es : Es) (s : Stp) {L : Nat} (h : es.length ≤ L) (hL : L ≤ 1000000) (hm : s.moves.length ≤ 1000000) : Short (tell (ltO o) es s) := by
  unfold tell Short
  split
  · simp
  · split
    · simp
    · split
      · simp; omega
      · split
        · simp; omega
        · split
          · simp [seens_len]; omega
          · simp
theorem ver_short {o L : Nat} {vs : List Es} (hv : ∀ es ∈ vs, Srt (ltO o) es ∧ es.length ≤ L) (s : Stp) : Srt (ltO o) (verOf vs s) ∧ (verOf vs s).length ≤ L := by
  unfold verOf
  rw [List.getD_eq_getElem?_getD]
  cases h : vs[s.on]? with
  | none => exact ⟨List.Pairwise.nil, Nat.zero_le _⟩
  | some es => exact hv es (List.mem_of_getElem? h)
theorem run_short (o : Nat) : ∀ (l : List Stp) (vs : List Es) (L : Nat), (∀ es ∈ vs, Srt (ltO o) es ∧ es.length ≤ L) → L + l.length ≤ 1000000 → (∀ s ∈ l, s.moves.length ≤ 1000000) → ∀ t ∈ run (ltO o) vs l, Short t
  | [], _, _, _, _, _, t, ht => by cases ht
  | s :: l, vs, L, hv, hL, hm, t, ht => by
    have hL2 : L + (l.length + 1) ≤ 1000000 := hL
    obtain ⟨h1, h2⟩ := ver_short hv s
    rcases List.mem_cons.1 ht with rfl | ht
    · exact tell_short o _ s h2 (by omega) (hm s (.head _))
    · refine run_short o l _ (L + 1) (fun es hes => ?_) (by omega) (fun x hx => hm x (.tail _ hx)) t ht
      unfold next at hes
      split at hes
      · rcases List.mem_append.1 hes with hes | hes
        · exact ⟨(hv es hes).1, Nat.le_succ_of_le (hv es hes).2⟩
        · rw [List.mem_singleton.1 hes]
          refine ⟨ins_srt (ord_ltO o) h1 _ _, ?_⟩
          rw [ins_len (ord_ltO o) h1]
          split <;> omega
      · split at hes
        · rcases List.mem_append.1 hes with hes | hes
          · exact ⟨(hv es hes).1, Nat.le_succ_of_le (hv es hes).2⟩
          · rw [List.mem_singleton.1 hes]
            refine ⟨del_srt (ord_ltO o) h1 _, ?_⟩
            rw [del_len (ord_ltO o) h1]
            omega
        · exact ⟨(hv es hes).1, Nat.le_succ_of_le (hv es hes).2⟩
theorem RightR.moves {l : List RSt} {n : Nat} (h : RightR n l) : ∀ s ∈ l.map RSt.to, s.moves.length ≤ 40 := fun s hs => by
  obtain ⟨r, hr, rfl⟩ := List.mem_map.1 hs
  obtain ⟨m, hok⟩ := h.all l n r hr
  exact hok.2.2.2.2.2.1

set_option maxRecDepth 100000 in
set_option maxHeartbeats 3200000 in
theorem lmaps_w (o : Nat) (sv : Value) (l : List RSt) (w : World) (hs : RStpsV w sv l) : Calls Try.prog 8 #[.int .u8 (o : Int), sv] w fun e w' => e = .returned (.bool true) ∧ Below w.heap.size w w' := by
  have HS := Lib.hid hs
  have HF := Lib.hid (fits7_w sv l w hs)
  obtain ⟨sa, scap, rfl, -⟩ := hs
  obtain ⟨n, hn⟩ : ∃ n, n = l.length := ⟨_, rfl⟩
  rw [← hn] at HF HS ⊢
  have HN := Lib.hid hn
  clear hn
  go_enter Try.func8, Try.ntmps8
  go_wp2_with fail
  refine HF.out.mono ?_
  rintro e w1 ⟨b, rfl, hb, hb1⟩
  have HB1 := Lib.hid hb1
  cases b with
  | false =>
    clear hb hb1
    go_wp2_with fail
    go_ret
    exact ⟨rfl, HB1.out⟩
  | true =>
    have HSR := Lib.hid (sright_w o _ l w1 (HS.out.below HB1.out) (by rw [← HN.out]; exact hb rfl))
    clear hb hb1 HF
    go_wp2_with fail
    refine HSR.out.mono ?_
    rintro e w2 ⟨b, rfl, hb, hb2⟩
    have HB2 := Lib.hid (HB1.out.trans (hb2.mono HB1.out.size))
    clear hb2 HSR
    cases b with
    | false =>
      clear hb
      go_wp2_with fail
      refine (awake_w w2).mono ?_
      rintro e wa ⟨rfl, hba⟩
      have HBA := Lib.hid (HB2.out.trans (hba.mono HB2.out.size))
      clear hba
      go_wp2_with fail
      refine bodyPost_ret (results_tmp rfl _ _ _) rfl ?_
      exact ⟨rfl, HBA.out⟩
    | true =>
      obtain ⟨ho, hl, hr⟩ := hb rfl
      have HR := Lib.hid hr
      have HL : Hid (n ≤ 80) := by show n ≤ 80; rw [HN.out]; exact hl
      obtain ⟨L, hLL⟩ : ∃ L, L = l.map RSt.to := ⟨_, rfl⟩
      have hrL : Right 1 L := by rw [hLL]; exact hr.right
      have hlen : L.length = n := by rw [hLL, List.length_map, HN.out]
      have hmv : ∀ s ∈ L, s.moves.length ≤ 40 := by rw [hLL]; exact hr.moves
      have HST : Hid (∀ W, Below w.heap.size w W → StpsV W (.slice sa n scap) L) := fun W hW => by rw [hLL]; exact (HS.out.below hW).stps HR.out
      have HRL := Lib.hid hrL
      have HLEN := Lib.hid hlen
      have HMV := Lib.hid hmv
      have HRUN := Lib.hid (srun_w o [] List.Pairwise.nil (Nat.zero_le _) _ L _ w2 (pt_nil w2 o) (HST.out _ HB2.out) hrL (by have := HL.out; omega))
      clear hb ho hl hr hLL hrL hlen hmv
      go_wp2_with fail
      refine HRUN.out.mono ?_
      rintro e w3 ⟨tv, vv, rfl, htd, -, hb3⟩
      have HTD := Lib.hid htd
      have HB3 := Lib.hid (HB2.out.trans (hb3.mono HB2.out.size))
      have HTS := Lib.hid (tosort_w _ L w3 (HST.out _ HB3.out) (by have := HLEN.out; have := HL.out; omega) (fun s hs => by have := HMV.out s hs; omega))
      obtain ⟨ta, tc, rfl⟩ : ∃ a c, tv = .slice a (run (ltO o) [[]] L).length c := by
        obtain ⟨rs, -, h, -⟩ := htd
        exact own_len h
      rw [run_len] at HTD ⊢
      clear htd hb3 HRUN
      go_wp2_with fail
      refine HTS.out.mono ?_
      rintro e w4 ⟨v4, rfl, hv4, hb4⟩
      have HRM := Lib.hid (runMaps_w o L v4 w4 hv4.stps HRL.out (by have := HLEN.out; have := HL.out; omega))
      have HB4 := Lib.hid (HB3.out.trans (hb4.mono HB3.out.size))
      have HTD4 := Lib.hid (HTD.out.below hb4)
      obtain ⟨v4a, v4c, rfl⟩ : ∃ a c, v4 = .slice a L.length c := by
        obtain ⟨rs, -, h, -⟩ := hv4
        exact own_len h
      clear hv4 hb4 HTS HTD
      go_wp2_with fail
      refine HRM.out.mono ?_
      rintro e w5 ⟨v5, rfl, hv5, hb5⟩
      have HB5 := Lib.hid (HB4.out.trans (hb5.mono HB4.out.size))
      obtain ⟨v5a, v5c, rfl⟩ : ∃ a c, v5 = .slice a (run (ltO o) [[]] L).length c := by
        obtain ⟨rs, -, h, -⟩ := hv5
        exact own_len h
      rw [run_len] at hv5 ⊢
      have HEQ := Lib.hid (eqf29_w _ _ (run (ltO o) [[]] L) (by rw [run_len]; have := HLEN.out; have := HL.out; omega) (run_short o L [[]] 0 (fun es hes => by rw [List.mem_singleton.1 hes]; exact ⟨List.Pairwise.nil, Nat.le_refl _⟩) (by have := HLEN.out; have := HL.out; omega) (fun s hs => by have := HMV.out s hs; omega)) w5 hv5.tld (HTD4.out.below hb5).tldp)
      clear hv5 hb5 HRM HTD4
      go_wp2_with fail
      refine HEQ.out.mono ?_
      rintro e w6 ⟨rfl, hb6⟩
      have HB6 := Lib.hid (HB5.out.trans (hb6.mono HB5.out.size))
      clear hb6 HEQ
      go_wp2_with fail
      refine (awake_w w6).mono ?_
      rintro e wa ⟨rfl, hba⟩
      have HBA := Lib.hid (HB6.out.trans (hba.mono HB6.out.size))
      clear hba
      go_wp2_with fail
      refine bodyPost_ret (results_tmp rfl _ _ _) rfl ?_
      exact ⟨rfl, HBA.out⟩
theorem lmaps_c (c : Int) (hc : 0 ≤ c) (sv : Value) (l : List RSt) (w : World) (hs : RStpsV w sv l) : Calls Try.prog 8 #[.int .u8 c, sv] w fun e w' => e = .returned (.bool true) ∧ Below w.heap.size w w' := by
  obtain ⟨o, rfl⟩ : ∃ o : Nat, c = (o : Int) := ⟨c.toNat, by omega⟩
  exact lmaps_w o sv l w hs
end Go.Proofs.Ytefigjdebakccaa
