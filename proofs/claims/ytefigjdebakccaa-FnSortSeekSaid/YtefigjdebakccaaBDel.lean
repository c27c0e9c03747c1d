/- The walk over a branch: delete (as a copy); delete at any node. -/
import Derived.Test.YtefigjdebakccaaLDel
namespace Go.Proofs.Ytefigjdebakccaa
open Go.RowKit

theorem disp_l_del (b : Nat) : Disp 138 (.pointer (some ⟨b, 0, none⟩)) 103 "pub-frond/pub/immutable.delete" := ⟨fun w => by kernel_rfl, fun w => by kernel_rfl, fun a w => by kernel_rfl⟩
theorem disp_b_del (b : Nat) : Disp 147 (.pointer (some ⟨b, 0, none⟩)) 110 "pub-frond/pub/immutable.delete" := ⟨fun w => by kernel_rfl, fun w => by kernel_rfl, fun a w => by kernel_rfl⟩
theorem bs_make2 {w w2 W : World} {rb N : Nat} {fl : Bool} {Z : List Value} (h1 : But (· = rb) w W) (h2 : Flag W rb fl) (h5 : Below w2.heap.size w2 W) :
    BS w w2 rb fl (W.heap.size + 1) W.heap.size N Z ((W.alloc (.cells Z.toArray 163)).alloc (.cells #[.slice (some ⟨W.heap.size, 0, none⟩) N N] 165)) := by
  have hlt := lt_of_block h2
  refine ⟨(h1.alloc _).alloc _, at_alloc (at_alloc h2), ?_, at_alloc (heap_alloc_last W _), (h5.alloc h5.size _).alloc (by rw [size_alloc]; have := h5.size; omega) _, h1.size, h5.size, by omega, by omega⟩
  have h := heap_alloc_last (W.alloc (.cells Z.toArray 163)) (.cells #[.slice (some ⟨W.heap.size, 0, none⟩) N N] 165)
  rw [size_alloc] at h
  exact h
theorem putK_nil (kids : List Kid) (n : Nat) : putK kids n [] = kids.take n ++ kids.drop (n + 1) := by unfold putK; rw [List.append_nil]

set_option maxRecDepth 100000 in
set_option maxHeartbeats 3200000 in
theorem brDel_w (o : Nat) (cv : Value) (hc : CmpIs o cv) (key : Int) (nb g q c rb r : Nat) (kids : List Kid) (hK : Kids (ltO o) (ess kids)) (hl : kids.length ≤ 32) (hcap : kids.length ≤ c) (w : World) (hf : Flag w rb false)
    (h4 : w.heap[nb]? = some (.cells #[.slice (some ⟨g, q, none⟩) kids.length c] 165 (0, 0))) (h5 : ∀ (i : Nat) (e : Int × Value), (krow kids)[i]? = some e → w.cell? ⟨g, q + i * 2, none⟩ = some (.int .i64 e.1) ∧ w.cell? ⟨g, q + i * 2 + 1, none⟩ = some e.2)
    (hg : g ≠ rb) (hkn : ∀ kd ∈ kids, SN w r kd.1 kd.2) (n : Nat) (hn : n = cut (ltO o) 0 (ess kids) key - 1) (kd : Kid) (hkd : kids[n]? = some kd) (ty p fid : Nat) (hv : kd.1 = .iface ty (.pointer (some ⟨p, 0, none⟩)))
    (hd : Disp ty (.pointer (some ⟨p, 0, none⟩)) fid "pub-frond/pub/immutable.delete") (found : Bool) (m : Nat)
    (hcall : ∀ W, Below w.heap.size w W → Calls Try.prog fid #[.pointer (some ⟨p, 0, none⟩), .int .i64 key, cv, .bool false, .pointer (some ⟨rb, 0, none⟩)] W (SDel W rb r m kd.1 found (del (ltO o) kd.2 key))) :
    Calls Try.prog 110 #[.pointer (some ⟨nb, 0, none⟩), .int .i64 key, cv, .bool false, .pointer (some ⟨rb, 0, none⟩)] w (SDel w rb (r + 1) kids.length (.iface 147 (.pointer (some ⟨nb, 0, none⟩))) found (del (ltO o) (ess kids).flatten key)) := by
  have hnl : n < kids.length := (List.getElem?_eq_some_iff.1 hkd).1
  have HI : Hid (Calls Try.prog 112 #[.pointer (some ⟨nb, 0, none⟩), .int .i64 key, cv] w fun e w' => e = .returned (.int .i64 (n : Nat)) ∧ Below w.heap.size w w') := by
    have h4' := cell_at (j := 0) h4 rfl
    rw [← ess_len] at h4'
    have := brIdx_w o cv hc key nb g q c (ess kids) hK (by rw [ess_len]; omega) w h4' (fun i e hi => by
      obtain ⟨kd2, hk2⟩ : ∃ kd, kids[i]? = some kd := ⟨_, List.getElem?_eq_getElem (show i < kids.length by rw [← ess_len]; exact (List.getElem?_eq_some_iff.1 hi).1)⟩
      rw [ess_get hk2] at hi
      cases hi
      exact (h5 i _ (krow_get hk2)).1)
    rw [← hn] at this
    exact this
  have hk5 := (h5 n _ (krow_get hkd)).2
  rw [hv] at hk5
  obtain ⟨cty, cvv, cfid, rfl, -, -⟩ := hc
  have HC := Lib.hid hcall
  have H4 := Lib.hid h4
  have H5 := Lib.hid h5
  have HF := Lib.hid hf
  have HNR := Lib.hid hg
  have HNB := Lib.hid (hf.other h4 (by decide))
  have HKD := Lib.hid hkd
  have HK5 := Lib.hid hk5
  have HKN := Lib.hid hkn
  have HKK := Lib.hid hK
  have HCUT := Lib.hid hn
  obtain ⟨d1, d2, d3⟩ := hd
  clear hcall h4 h5 hf hg hkd hk5 hkn hK hn hv
  go_enter Try.func110, Try.ntmps110
  go_wp2_with fail
  refine HI.out.mono ?_
  rintro e w1 ⟨rfl, hb⟩
  have h4 := cell_at (j := 0) (below_at hb H4.out) rfl
  have h5k := bcell hb HK5.out
  have HB := Lib.hid hb
  have hi' : (n : Int) < (kids.length : Int) := by omega
  have hi0 : (0 : Int) ≤ (n : Int) := by omega
  clear HI hb
  go_wp2_with fail
  refine (HC.out w1 HB.out).mono ?_
  rintro e w2 ⟨hbt, hf2, ⟨rfl, rfl⟩ | ⟨rfl, hnil, rfl⟩ | ⟨rfl, v1, n1, rfl, hn1, hcnt⟩⟩
  · have HF2 := Lib.hid hf2
    have HB2 : Hid (But (· = rb) w w2) := (But.of_below HB.out).trans hbt
    have f0 := cell_at (j := 0) hf2 rfl
    obtain ⟨ty9, p9, h9⟩ := (HKN.out kd (List.mem_of_getElem? HKD.out)).ptr
    rw [h9]
    clear hbt hf2 h4 h5k HB HC h9
    go_wp2_with fail
    go_ret
    exact ⟨HB2.out, HF2.out, .inl ⟨rfl, rfl⟩⟩
  · have HF2 := Lib.hid hf2
    have HB2 : Hid (But (· = rb) w w2) := (But.of_below HB.out).trans hbt
    have f0 := cell_at (j := 0) hf2 rfl
    obtain ⟨q1, q2⟩ := put_del (ord_ltO o) HKK.out (d := 0) (k := key) (b := kd.2) (bs := []) (by rw [← HCUT.out]; exact ess_get HKD.out) (by rw [hnil]; rfl) (fun es he => by cases he)
    rw [← HCUT.out] at q1 q2
    have HQ := Lib.hid q2
    clear hbt hf2 h5k HB HC hnil h4 q1 q2
    have h4 := cell_at (j := 0) (HB2.out.at H4.out HNB.out) rfl
    by_cases h1 : kids.length = 1
    · have hd : ((kids.length : Int) == 1) = true := by rw [h1]; rfl
      have hdel : del (ltO o) (ess kids).flatten key = [] := by
        rw [← HQ.out]
        have e : put (ess kids) n [] = [] := by
          apply List.eq_nil_of_length_eq_zero
          rw [len_put (by rw [ess_len]; exact hnl), ess_len, h1]
          rfl
        rw [e]; rfl
      have HDL := Lib.hid hdel
      clear hdel h1
      go_wp2_with fail
      go_ret
      exact ⟨HB2.out, HF2.out, .inr (.inl ⟨rfl, HDL.out, rfl⟩)⟩
    · have hd : ((kids.length : Int) == 1) = false := by simp; omega
      obtain ⟨N, hN⟩ : ∃ N, N = kids.length - 1 := ⟨_, rfl⟩
      have hwa : IntKind.i64.wrap ((kids.length : Int) - 1) = (N : Int) := by rw [IntKind.wrap_i64]; omega
      have hwb : (kids.length : Int) - 1 = (N : Int) := by omega
      have hwc : IntKind.i64.wrap (N : Int) = (N : Int) := by rw [IntKind.wrap_i64]; omega
      obtain ⟨Z, hZl, hmk⟩ := make161 w2 N (by omega)
      have HN := Lib.hid hN
      have HZL := Lib.hid hZl
      have HLN : Hid (kids.length ≠ 1) := h1
      clear hN hZl h1
      go_upto_region 14 with (fail)
      have HLS := Lib.hid (bs_make2 (w2 := w2) (Z := Z) (N := N) HB2.out HF2.out (Below.refl _ _))
      clear h4 hmk hwa hwb hwc hd HB2 HF2 f0
      generalize ((w2.alloc (Obj.cells Z.toArray 163)).alloc (Obj.cells #[Value.slice (some ⟨w2.heap.size, 0, none⟩) N N] 165)) = W3 at HLS ⊢
      obtain ⟨b, hb⟩ : ∃ b, b = w2.heap.size := ⟨_, rfl⟩
      obtain ⟨ob, hob⟩ : ∃ ob, ob = b + 1 := ⟨_, rfl⟩
      rw [← hb, ← hob] at HLS ⊢
      clear hob hb
      obtain ⟨row, hrow⟩ : ∃ row, row = krow kids := ⟨_, rfl⟩
      have hrl : row.length = kids.length := by rw [hrow, krow_len]
      have HRO := Lib.hid hrow
      have HRL := Lib.hid hrl
      have HONE : Hid (∀ e ∈ row, e.2.oneCell' = true) := by show ∀ e ∈ row, _; rw [hrow]; exact krow_one HKN.out
      have HSRC : Hid (∀ W, But (· = rb) w W → ∀ j v, (rcells row)[j]? = some v → W.cell? ((⟨g, q, none⟩ : Addr).add j) = some v) := fun W hW => src_rows fun i y hy => by
        rw [hrow] at hy
        have hgs : g < w.heap.size := World.block_lt_of_cell? w _ (H5.out i y hy).1
        have h6 := hW.block g hgs HNR.out
        exact ⟨by rw [World.cell?, h6]; exact (H5.out i y hy).1, by rw [World.cell?, h6]; exact (H5.out i y hy).2⟩
      clear hrow hrl
      have h4 := cell_at (j := 0) (HLS.out.1.at H4.out HNB.out) rfl
      have h41 := cell_at (j := 0) HLS.out.2.2.1 rfl
      have hnN : n ≤ N := by have := HN.out; omega
      have hnc : n ≤ c := by omega
      refine region_tail 12 (by kernel_rfl) (by kernel_rfl) ?_
      simp only [List.take_succ_cons, List.take_zero, List.drop_succ_cons, List.drop_zero]
      repeat still_step
      refine wpStill_nil ?_
      obtain ⟨c1, hcc1⟩ : ∃ c1, c1 = rcells (row.take n) := ⟨_, rfl⟩
      obtain ⟨c2, hcc2⟩ : ∃ c2, c2 = rcells (row.drop (n + 1)) := ⟨_, rfl⟩
      have hl1 : c1.length = n * 2 := by rw [hcc1, rcells_len, List.length_take, Nat.min_eq_left (by rw [HRL.out]; omega)]
      have hl2 : c2.length = (N - n) * 2 := by rw [hcc2, rcells_len, List.length_drop, HRL.out]; have := HN.out; congr 1; omega
      have HC := Lib.hid (And.intro hcc1 hcc2)
      have HC1 := Lib.hid hl1
      have HC2 := Lib.hid hl2
      clear hcc1 hcc2 hl1 hl2
      refine wpList_copy_kk rfl (.tmp 103) (.tmp 109) 161 161 rfl 163 2 Try.underlying161 size163 (some ⟨b, 0, none⟩) (some ⟨g, q, none⟩) n N n c rfl rfl b 0 Z 163 HLS.out.drew.2.2.2.1 c1 n (Nat.min_self _).symm HC1.out (fun _ => ⟨rfl, _, rfl, fun j v hj => HSRC.out _ HLS.out.drew.1 j v ?_⟩) (by rw [HC1.out, HZL.out]; omega) (by rw [HC.out.1]; exact rcells_one fun e he => HONE.out e (List.mem_of_mem_take he)) ?_
      · rw [rcells_take row n, ← HC.out.1, List.getElem?_append_left (List.getElem?_eq_some_iff.1 hj).1]
        exact hj
      intro W4 hg4 hb4
      have HLS4 := Lib.hid (HLS.out.drew.step hb4.out hg4.out)
      clear hg4 hb4 HLS h4 h41
      clear W3
      go_upto_region 15 with (fail)
      have h4 := cell_at (j := 0) (HLS4.out.1.at H4.out HNB.out) rfl
      have h41 := cell_at (j := 0) HLS4.out.2.2.1 rfl
      have hw1 : IntKind.i64.wrap ((n : Int) + 1) = (n : Int) + 1 := by rw [IntKind.wrap_i64]; omega
      obtain ⟨e1, he1, hs1⟩ := slice161_l b 0 N N n hnN (Nat.le_refl _)
      obtain ⟨e2, he2, hs2⟩ := slice161_l g q kids.length c (n + 1) (by omega) hcap
      have hs2 : ∀ w : World, (Instr.slice 161 (.slice (some ⟨g, q, none⟩) kids.length c) (some (.int .i64 ((n : Int) + 1))) none none).run Try.prog w = .ok (.slice (some e2) (kids.length - (n + 1)) (c - (n + 1))) w := hs2
      have HD := Lib.hid (And.intro he1 he2)
      clear he1 he2
      refine region_tail 13 (by kernel_rfl) (by kernel_rfl) ?_
      simp only [List.take_succ_cons, List.take_zero, List.drop_succ_cons, List.drop_zero]
      repeat still_step
      refine wpStill_nil ?_
      refine wpList_copy_kk rfl (.tmp 116) (.tmp 123) 161 161 rfl 163 2 Try.underlying161 size163 (some e1) (some e2) (N - n) (N - n) (kids.length - (n + 1)) (c - (n + 1)) rfl rfl b c1.length (splice Z 0 c1) 163 HLS4.out.drew.2.2.2.1 c2 (N - n) (by show _ = min _ _; have := HN.out; omega) HC2.out (fun h9 => ⟨by rw [HD.out.1 (by omega), Nat.zero_add, HC1.out], e2, rfl, fun j v hj => ?_⟩)
        (by rw [length_splice _ _ _ (by rw [HC1.out, HZL.out]; omega), HC2.out, HC1.out, HZL.out]; omega) (by rw [HC.out.2]; exact rcells_one fun e he => HONE.out e (List.mem_of_mem_drop he)) ?_
      · have h7 := HSRC.out _ HLS4.out.drew.1 ((n + 1) * 2 + j) v (by rw [rcells_take row (n + 1), ← HC.out.2, List.getElem?_append_right (by rw [rcells_len, List.length_take]; omega), rcells_len, List.length_take, Nat.min_eq_left (by rw [HRL.out]; omega), show (n + 1) * 2 + j - (n + 1) * 2 = j by omega]; exact hj)
        rw [addr_add] at h7
        rw [HD.out.2 (by have := HN.out; omega), addr_add, Nat.add_assoc]
        exact h7
      intro W5 hg5 hb5
      have hrow := hg5.out
      rw [splice_two (by rw [HC1.out, HC2.out, HZL.out]; omega), HC.out.1, HC.out.2, ← rcells_append] at hrow
      have HLS5 := Lib.hid (HLS4.out.drew.step hb5.out hrow)
      clear hrow hg5 hb5 HLS4 h4 h41 hs1 hs2 HD HSRC hw1
      clear W4
      go_wp2_with fail
      go_ret
      have hst : Stay w W5 := HLS5.out.1.stay HF.out
      have hk : krow (putK kids n []) = row.take n ++ row.drop (n + 1) := by rw [krow_put, ← HRO.out]; simp [krow]
      have hpl : (putK kids n []).length = N := by rw [len_putK hnl]; have := HN.out; simp only [List.length_nil]; omega
      refine ⟨HLS5.out.1, HLS5.out.2.1, .inr (.inr ⟨rfl, _, N, rfl, by have := HN.out; omega, putK kids n [], ⟨ob, _, rfl, HLS5.out.2.2.1, ?_, ?_, ?_⟩, ?_, ?_, hpl.symm⟩)⟩
      · have h8 := HLS5.out.2.2.2.1
        rw [← hk] at h8
        have := rows_all h8
        rw [krow_len, hpl] at this
        exact this
      · intro e
        rw [e] at hpl
        simp only [List.length_nil] at hpl
        have := HN.out
        have := HLN.out
        omega
      · rw [hpl]; have := HN.out; omega
      · intro kd2 hkd2
        rcases mem_putK hkd2 with h | h
        · exact (HKN.out kd2 h).stay hst
        · cases h
      · rw [ess_put, ← HQ.out]
        rfl
  · have hs1 := hcnt.sn
    have HF2 := Lib.hid hf2
    have HB2 : Hid (But (· = rb) w w2) := (But.of_below HB.out).trans hbt
    have HS1 := Lib.hid hs1
    obtain ⟨ty1, p1, rfl⟩ := hs1.ptr
    have HN1 := Lib.hid hn1
    have HCN := Lib.hid hcnt
    clear hbt hf2 hcnt hs1 hn1 h4 h5k HB HC
    have f0 := cell_at (j := 0) HF2.out rfl
    have h4 := cell_at (j := 0) (HB2.out.at H4.out HNB.out) rfl
    obtain ⟨Z, hZl, hmk⟩ := make161 w2 kids.length (by omega)
    have HZL := Lib.hid hZl
    clear hZl
    go_upto_region 21 with (fail)
    have HBS := Lib.hid (bs_make2 (w2 := w2) (Z := Z) (N := kids.length) HB2.out HF2.out (Below.refl _ _))
    clear h4 hmk HB2 HF2 f0
    generalize ((w2.alloc (Obj.cells Z.toArray 163)).alloc (Obj.cells #[Value.slice (some ⟨w2.heap.size, 0, none⟩) kids.length kids.length] 165)) = W3 at HBS ⊢
    obtain ⟨b, hb⟩ : ∃ b, b = w2.heap.size := ⟨_, rfl⟩
    obtain ⟨ob, hob⟩ : ∃ ob, ob = b + 1 := ⟨_, rfl⟩
    rw [← hb, ← hob] at HBS ⊢
    clear hob hb
    have h4 := cell_at (j := 0) (HBS.out.1.at H4.out HNB.out) rfl
    have h41 := cell_at (j := 0) HBS.out.2.2.1 rfl
    refine region_tail 8 (by kernel_rfl) (by kernel_rfl) ?_
    simp only [List.take_succ_cons, List.take_zero, List.drop_succ_cons, List.drop_zero]
    repeat still_step
    refine wpStill_nil ?_
    have HSRC : Hid (∀ W, But (· = rb) w W → ∀ j v, (rcells (krow kids))[j]? = some v → W.cell? ((⟨g, q, none⟩ : Addr).add j) = some v) := fun W hW => src_rows fun i y hy => by
      have hgs : g < w.heap.size := World.block_lt_of_cell? w _ (H5.out i y hy).1
      have h6 := hW.block g hgs HNR.out
      exact ⟨by rw [World.cell?, h6]; exact (H5.out i y hy).1, by rw [World.cell?, h6]; exact (H5.out i y hy).2⟩
    refine wpList_copy_kk rfl (.tmp 151) (.tmp 155) 161 161 rfl 163 2 Try.underlying161 size163 (some ⟨b, 0, none⟩) (some ⟨g, q, none⟩) kids.length kids.length kids.length c rfl rfl b 0 Z 163 HBS.out.drew.2.2.2.1 (rcells (krow kids)) kids.length (Nat.min_self _).symm (by rw [rcells_len, krow_len]) (fun _ => ⟨rfl, _, rfl, HSRC.out _ HBS.out.drew.1⟩) (by rw [rcells_len, krow_len]; have := HZL.out; omega) (rcells_one (krow_one HKN.out)) ?_
    intro W4 hg4 hb4
    have hrow := hg4.out
    rw [splice_all (by rw [rcells_len, krow_len]; have := HZL.out; omega), List.drop_of_length_le (by rw [rcells_len, krow_len]; have := HZL.out; omega), List.append_nil] at hrow
    have HBS4 := Lib.hid (HBS.out.drew.step hb4.out hrow)
    clear hrow hg4 hb4 HBS h4 h41 HSRC
    clear W3
    go_upto_region 22 with (fail)
    obtain ⟨hg0', hg1'⟩ := rcells_at (krow_get HKD.out)
    have HG : Hid (W4.cell? ⟨b, n * 2, none⟩ = some (.int .i64 (hd 0 kd.2)) ∧ W4.cell? ⟨b, n * 2 + 1, none⟩ = some kd.1) := ⟨cell_at HBS4.out.2.2.2.1 (by rw [List.getElem?_toArray]; exact hg0'), cell_at HBS4.out.2.2.2.1 (by rw [List.getElem?_toArray]; exact hg1')⟩
    have HS4 := Lib.hid (HS1.out.stay (Stay.of_below HBS4.out.drew.2.2.2.2.1))
    obtain ⟨ty2, p2, fid2, e1, ⟨k1, k2, k3⟩, e3⟩ := min_any HS4.out
    simp only [Value.iface.injEq, Value.pointer.injEq, Option.some.injEq, Addr.mk.injEq, and_true] at e1
    obtain ⟨rfl, rfl⟩ := e1
    have HMIN := Lib.hid e3
    clear hg0' hg1' e3
    have HR0 : Hid (But (· = b) W4 W4.drew) := (But.refl _ _).drew
    have HNE : Hid (ob ≠ b) := HBS4.out.2.2.2.2.2.2.2.2
    refine region_segsR (fun W => But (· = b) W4 W) [([0, 1, 2, 3, 4, 5, 7], [6]), ([8, 9], [10])] (by kernel_rfl) (by intro dst v c a w h; cases dst <;> exact h) (by kernel_rfl) HR0.out ?_
    refine r_segs ?_
    simp only [opsOf, List.getElem?_toArray, List.getElem?_cons_succ, List.getElem?_cons_zero]
    repeat (refine r_read ?_ (by kernel_rfl) ?_ (fun K hK => ?_); rotate_left 1; (intro W hR; have x0 := cell_at (j := 0) (hR.at HBS4.out.2.2.1 HNE.out) rfl; clear hR; go_simp; try with_reducible rfl); go_simp; refine hK _ ?_; clear hK K)
    refine r_nil1 ?_
    refine r_op rfl (fun K hK => ?_)
    go_simp
    refine HMIN.out.mono ?_
    rintro e w' ⟨rfl, rfl⟩
    refine hK _ _ HR0.out ?_
    clear hK K
    refine r_segs ?_
    simp only [opsOf, List.getElem?_toArray, List.getElem?_cons_succ, List.getElem?_cons_zero]
    repeat (refine r_read ?_ (by kernel_rfl) ?_ (fun K hK => ?_); rotate_left 1; (intro W hR; clear hR; go_simp; try with_reducible rfl); go_simp; refine hK _ ?_; clear hK K)
    refine r_nil1 ?_
    refine r_op rfl (fun K hK => ?_)
    obtain ⟨c0, c1⟩ := HG.out
    have f0 : W4.frozen? ⟨b, n * 2, none⟩ = false := frozen_of_row _ _ _ _ _ HBS4.out.2.2.2.1
    have f1 : W4.frozen? ⟨b, n * 2 + 1, none⟩ = false := frozen_of_row _ _ _ _ _ HBS4.out.2.2.2.1
    go_simp
    have HB5 : Hid (But (fun x => x = b) W4 ((W4.setCell ⟨b, n * 2, none⟩ (.int .i64 (hd 0 (del (ltO o) kd.2 key)))).setCell ⟨b, n * 2 + 1, none⟩ (.iface ty1 (.pointer (some ⟨p1, 0, none⟩)))).drew) := by
      have h1 : But (fun x => x = b) W4 _ := (But.refl (fun x => x = b) W4).setCell (p := ⟨b, n * 2, none⟩) (.inl rfl) (.int .i64 (hd 0 (del (ltO o) kd.2 key)))
      have h2 := h1.setCell (p := ⟨b, n * 2 + 1, none⟩) (.inl rfl) (.iface ty1 (.pointer (some ⟨p1, 0, none⟩)))
      exact h2.drew
    refine hK _ _ HB5.out ?_
    clear hK K c0 c1 f0 f1 k1 k2 k3
    refine r_end ?_
    have HBS5 := Lib.hid (HBS4.out.step (row' := rcells ((krow kids).set n (hd 0 (del (ltO o) kd.2 key), .iface ty1 (.pointer (some ⟨p1, 0, none⟩))))) HB5.out (by
      rw [← rcells_set]
      exact heap_setCell_same _ _ _ _ _ _ (heap_setCell_same _ _ _ _ _ _ HBS4.out.2.2.2.1)))
    clear HB5 HBS4 HG HR0 HMIN HS4
    generalize ((W4.setCell ⟨b, n * 2, none⟩ (.int .i64 (hd 0 (del (ltO o) kd.2 key)))).setCell ⟨b, n * 2 + 1, none⟩ (.iface ty1 (.pointer (some ⟨p1, 0, none⟩)))).drew = W5 at HBS5 ⊢
    clear W4
    have x0 := cell_at (j := 0) HBS5.out.2.2.1 rfl
    go_wp2_with fail
    go_ret
    obtain ⟨q1, q2⟩ := put_del (ord_ltO o) HKK.out (d := 0) (k := key) (b := kd.2) (bs := [del (ltO o) kd.2 key]) (by rw [← HCUT.out]; exact ess_get HKD.out) (by simp) (fun es he => by simp only [List.mem_singleton] at he; rw [he]; exact HS1.out.ne)
    rw [← HCUT.out] at q1 q2
    have hst : Stay w W5 := HBS5.out.1.stay HF.out
    have hpl : (putK kids n [(Value.iface ty1 (.pointer (some ⟨p1, 0, none⟩)), del (ltO o) kd.2 key)]).length = kids.length := by rw [len_putK hnl]; simp only [List.length_cons, List.length_nil]; omega
    refine ⟨HBS5.out.1, HBS5.out.2.1, .inr (.inr ⟨rfl, _, kids.length, rfl, Nat.le_refl _, putK kids n [(.iface ty1 (.pointer (some ⟨p1, 0, none⟩)), del (ltO o) kd.2 key)], ⟨ob, _, rfl, HBS5.out.2.2.1, ?_, ?_, ?_⟩, ?_, ?_, hpl.symm⟩)⟩
    · have h8 := HBS5.out.2.2.2.1
      rw [← put_one _ _ (by rw [krow_len]; exact hnl)] at h8
      have e : krow (putK kids n [(.iface ty1 (.pointer (some ⟨p1, 0, none⟩)), del (ltO o) kd.2 key)]) = (krow kids).take n ++ [(hd 0 (del (ltO o) kd.2 key), .iface ty1 (.pointer (some ⟨p1, 0, none⟩)))] ++ (krow kids).drop (n + 1) := krow_put _ _ _
      rw [← e] at h8
      have := rows_all h8
      rw [krow_len, hpl] at this
      exact this
    · intro e
      rw [e] at hpl
      simp only [List.length_nil] at hpl
      omega
    · rw [hpl]; exact hl
    · intro kd2 hkd2
      rcases mem_putK hkd2 with h | h
      · exact (HKN.out kd2 h).stay hst
      · simp only [List.mem_singleton] at h
        subst h
        exact HS1.out.stay (Stay.of_below HBS5.out.2.2.2.2.1)
    · rw [ess_put, ← q2]
      rfl

/-- delete at any node -/
theorem sdel_any (o : Nat) (cv : Value) (hc : CmpIs o cv) (key : Int) : ∀ {r : Nat} {w : World} {n rb : Nat} {v : Value} {es : List (Int × Int)}, Cnt w r n v es → Srt (ltO o) es → Flag w rb false → ∃ (ty p fid : Nat), v = .iface ty (.pointer (some ⟨p, 0, none⟩)) ∧ Disp ty (.pointer (some ⟨p, 0, none⟩)) fid "pub-frond/pub/immutable.delete" ∧
    Calls Try.prog fid #[.pointer (some ⟨p, 0, none⟩), .int .i64 key, cv, .bool false, .pointer (some ⟨rb, 0, none⟩)] w (SDel w rb r n v (look (ltO o) es key).isSome (del (ltO o) es key))
  | 0, w, n, rb, v, es, ⟨⟨b, sl, h1, h2, hE, h7, h8⟩, hn⟩, hs, hf => by
    obtain ⟨g, q, c, arr, rfl, h4, h5, h6⟩ := hE
    subst hn
    refine ⟨138, b, 103, h1, disp_l_del b, ?_⟩
    have hg : g ≠ rb := hf.other h4 (by decide)
    cases hx : look (ltO o) es key with
    | none =>
      rw [h1]
      exact leafDel_none o cv hc key false b g q c rb es hs h8 w hf h2 (fun i e hi => ⟨cell_at h4 (h6 i e hi).1, cell_at h4 (h6 i e hi).2⟩) hx _ _
    | some x => exact leafDel_some o cv hc key x b g q c rb es hs h8 h5 w hf h2 (fun i e hi => ⟨cell_at h4 (h6 i e hi).1, cell_at h4 (h6 i e hi).2⟩) hg hx v
  | r + 1, w, n, rb, v, es, ⟨kids, ⟨b, sl, h1, h2, hR, h7, h8⟩, h9, h10, hn⟩, hs, hf => by
    obtain ⟨g, q, c, arr, rfl, h4, h5, h6⟩ := hR
    subst h10 hn
    have hK := Srt.kids hs h9
    have hne : ess kids ≠ [] := fun e => h7 (List.eq_nil_of_length_eq_zero (by rw [← ess_len, e]; rfl))
    obtain ⟨k1, -, -⟩ := kids_at (ord_ltO o) hK 0 key hne
    obtain ⟨i, hi⟩ : ∃ i, i = cut (ltO o) 0 (ess kids) key - 1 := ⟨_, rfl⟩
    rw [← hi] at k1
    obtain ⟨kd, hkd⟩ : ∃ kd, kids[i]? = some kd := ⟨_, List.getElem?_eq_getElem (show i < kids.length by rw [ess_len] at k1; exact k1)⟩
    have hm := List.mem_of_getElem? hkd
    have hlook := look_kid (ord_ltO o) hK (d := 0) (k := key) (by rw [← hi]; exact ess_get hkd)
    have hsk : Srt (ltO o) kd.2 := hs.kid (List.mem_of_getElem? (ess_get hkd))
    obtain ⟨m, hcnt⟩ := (h9 kd hm).cnt
    obtain ⟨ty, p, fid, e1, e2, e3⟩ := sdel_any o cv hc key hcnt hsk hf
    have hg : g ≠ rb := hf.other h4 (by decide)
    rw [krow_len] at h2 h5
    refine ⟨147, b, 110, h1, disp_b_del b, ?_⟩
    rw [hlook, h1]
    refine brDel_w o cv hc key b g q c rb r kids hK h8 h5 w hf h2 (fun i e hi => ⟨cell_at h4 (h6 i e hi).1, cell_at h4 (h6 i e hi).2⟩) hg h9 i hi kd hkd ty p fid e1 e2 _ m fun W hW => ?_
    obtain ⟨ty2, p2, fid2, f1, f2, f3⟩ := sdel_any o cv hc key (hcnt.stay (Stay.of_below hW)) hsk (hf.below hW)
    obtain ⟨rfl, rfl, rfl⟩ := disp_one e2 f2 (e1.symm.trans f1)
    exact f3
end Go.Proofs.Ytefigjdebakccaa
