/- The walks over a leaf: delete (as a copy). -/
import Derived.Test.YtefigjdebakccaaSetA
namespace Go.Proofs.Ytefigjdebakccaa
open Go.RowKit

/-- what delete leaves: the node itself, nothing, or another one -/
def SDel (w : World) (rb r n : Nat) (v : Value) (found : Bool) (es' : List (Int × Int)) (e : Ending) (w' : World) : Prop :=
  But (· = rb) w w' ∧ Flag w' rb found ∧ ((found = false ∧ e = .returned v) ∨ (found = true ∧ es' = [] ∧ e = .returned .nilIface) ∨ (found = true ∧ ∃ v1 n', e = .returned v1 ∧ n' ≤ n ∧ Cnt w' r n' v1 es'))
/-- a leaf being made: its block, its row -/
def LS (w : World) (rb : Nat) (fl : Bool) (ob b N : Nat) (row : List Value) (W : World) : Prop :=
  But (· = rb) w W ∧ Flag W rb fl ∧ W.heap[ob]? = some (.cells #[.slice (some ⟨b, 0, none⟩) N N] 143 (0, 0)) ∧ W.heap[b]? = some (.cells row.toArray 140 (0, 0)) ∧ w.heap.size ≤ b ∧ rb ≠ b ∧ ob ≠ b
section
variable {w W W' : World} {rb ob b N : Nat} {fl : Bool} {row row' : List Value}
theorem LS.step (h : LS w rb fl ob b N row W) (hb : But (· = b) W W') (hr : W'.heap[b]? = some (.cells row'.toArray 140 (0, 0))) : LS w rb fl ob b N row' W' := by
  obtain ⟨h1, h2, h3, h4, h6, h8, h9⟩ := h
  exact ⟨But.more h1 h6 hb, (hb.block rb (lt_of_block h2) h8).trans h2, (hb.block ob (lt_of_block h3) h9).trans h3, hr, h6, h8, h9⟩
theorem ls_make {Z : List Value} (h1 : But (· = rb) w W) (h2 : Flag W rb fl) :
    LS w rb fl (W.heap.size + 1) W.heap.size N Z ((W.alloc (.cells Z.toArray 140)).alloc (.cells #[.slice (some ⟨W.heap.size, 0, none⟩) N N] 143)) := by
  have hlt := lt_of_block h2
  refine ⟨(h1.alloc _).alloc _, at_alloc (at_alloc h2), ?_, at_alloc (heap_alloc_last W _), h1.size, by omega, by omega⟩
  have h := heap_alloc_last (W.alloc (.cells Z.toArray 140)) (.cells #[.slice (some ⟨W.heap.size, 0, none⟩) N N] 143)
  rw [size_alloc] at h
  exact h
theorem LS.drew (h : LS w rb fl ob b N row W) : LS w rb fl ob b N row W.drew := h.step (But.refl _ _).drew h.2.2.2.1
end

set_option maxRecDepth 100000 in
set_option maxHeartbeats 1600000 in
theorem leafDel_none (o : Nat) (cv : Value) (hc : CmpIs o cv) (key : Int) (mt : Bool) (nb g q c rb : Nat) (es : List (Int × Int)) (hs : Srt (ltO o) es) (hl : es.length ≤ 32) (w : World) (hf : Flag w rb false)
    (h4 : w.heap[nb]? = some (.cells #[.slice (some ⟨g, q, none⟩) es.length c] 143 (0, 0))) (h5 : ∀ (i : Nat) (e : Int × Int), es[i]? = some e → w.cell? ⟨g, q + i * 2, none⟩ = some (.int .i64 e.1) ∧ w.cell? ⟨g, q + i * 2 + 1, none⟩ = some (.int .i64 e.2))
    (hx : look (ltO o) es key = none) (n : Nat) (es' : List (Int × Int)) :
    Calls Try.prog 103 #[.pointer (some ⟨nb, 0, none⟩), .int .i64 key, cv, .bool mt, .pointer (some ⟨rb, 0, none⟩)] w (SDel w rb 0 n (.iface 138 (.pointer (some ⟨nb, 0, none⟩))) false es') := by
  have HI := Lib.hid (leafIdx_w o cv hc key nb g q c es hs (by omega) w (cell_at h4 rfl) fun i e hi => (h5 i e hi).1)
  obtain ⟨a1, a2⟩ := (at_look (ord_ltO o) hs key).2 hx
  have hnl := at_le (lt := ltO o) es key
  obtain ⟨n, hn⟩ : ∃ n, n = at_ (ltO o) es key := ⟨_, rfl⟩
  rw [← hn] at HI a1 hnl
  have HA := Lib.hid a1
  obtain ⟨ty, v, fid, rfl, ⟨d1, d2, d3⟩, hcall⟩ := hc
  have HC := Lib.hid hcall
  have H5 := Lib.hid h5
  have H4 := Lib.hid h4
  have HF := Lib.hid hf
  clear hcall h5 hn hs a1 a2 hf hx h4
  go_enter Try.func103, Try.ntmps103
  go_wp2_with fail
  refine HI.out.mono ?_
  rintro e w1 ⟨rfl, hb⟩
  have h4 := cell_at (j := 0) (below_at hb H4.out) rfl
  have HB := Lib.hid hb
  clear HI hb
  by_cases hne : n = es.length
  · have hlt : decide ((es.length : Int) ≤ (n : Int)) = true := by simp; omega
    have hlt2 : es.length ≤ n := by omega
    clear hne HA
    go_upto_region 2 with (fail)
    refine region_still (by kernel_rfl) (by kernel_rfl) (Veil.out ?_)
    repeat (refine v_step (fun K hK => ?_); go_simp; refine hK _ ?_; clear hK K)
    refine v_nil ⟨?_⟩
    go_wp2_with fail
    go_ret
    exact ⟨But.of_below HB.out.drew, HF.out.below HB.out.drew, .inl ⟨rfl, rfl⟩⟩
  · have hi' : (n : Int) < (es.length : Int) := by omega
    have hi0 : (0 : Int) ≤ (n : Int) := by omega
    have hlt : decide ((es.length : Int) ≤ (n : Int)) = false := by simp; omega
    have hlt2 : ¬ es.length ≤ n := by omega
    obtain ⟨y, hy⟩ : ∃ y, es[n]? = some y := ⟨_, List.getElem?_eq_getElem (show n < es.length by omega)⟩
    have h5k := bcell HB.out (H5.out n y hy).1
    have hz : (cmpO o y.1 key != 0) = true := by
      have : cmpO o y.1 key ≠ 0 := fun e => HA.out y hy (cmp_zero.1 e)
      simpa using this
    clear hne hy
    go_upto_region 2 with (fail)
    refine region_tail 21 (by kernel_rfl) (by kernel_rfl) ?_
    simp only [List.take_succ_cons, List.take_zero, List.drop_succ_cons, List.drop_zero]
    repeat still_step
    refine wpStill_nil ?_
    go_wp2_with fail
    refine (HC.out _ _ _).mono ?_
    rintro e w' ⟨rfl, rfl⟩
    go_wp2_with fail
    go_ret
    exact ⟨But.of_below HB.out.drew, HF.out.below HB.out.drew, .inl ⟨rfl, rfl⟩⟩

set_option maxRecDepth 100000 in
set_option maxHeartbeats 3200000 in
theorem leafDel_some (o : Nat) (cv : Value) (hc : CmpIs o cv) (key x : Int) (nb g q c rb : Nat) (es : List (Int × Int)) (hs : Srt (ltO o) es) (hl : es.length ≤ 32) (hcap : es.length ≤ c) (w : World) (hf : Flag w rb false)
    (h4 : w.heap[nb]? = some (.cells #[.slice (some ⟨g, q, none⟩) es.length c] 143 (0, 0))) (h5 : ∀ (i : Nat) (e : Int × Int), es[i]? = some e → w.cell? ⟨g, q + i * 2, none⟩ = some (.int .i64 e.1) ∧ w.cell? ⟨g, q + i * 2 + 1, none⟩ = some (.int .i64 e.2))
    (hg : g ≠ rb) (hx : look (ltO o) es key = some x) (v0 : Value) :
    Calls Try.prog 103 #[.pointer (some ⟨nb, 0, none⟩), .int .i64 key, cv, .bool false, .pointer (some ⟨rb, 0, none⟩)] w (SDel w rb 0 es.length v0 true (del (ltO o) es key)) := by
  have HI := Lib.hid (leafIdx_w o cv hc key nb g q c es hs (by omega) w (cell_at h4 rfl) fun i e hi => (h5 i e hi).1)
  obtain ⟨a1, a2⟩ := (at_look (ord_ltO o) hs key).1 x hx
  have HE := Lib.hid (del_old (ord_ltO o) hs hx)
  obtain ⟨n, hn⟩ : ∃ n, n = at_ (ltO o) es key := ⟨_, rfl⟩
  rw [← hn] at HI HE a1
  have hnl : n < es.length := (List.getElem?_eq_some_iff.1 a1).1
  have h5k := h5 n _ a1
  obtain ⟨ty, v, fid, rfl, ⟨d1, d2, d3⟩, hcall⟩ := hc
  have HC := Lib.hid hcall
  have H4 := Lib.hid h4
  have H5 := Lib.hid h5
  have HF := Lib.hid hf
  have HNR := Lib.hid hg
  have HNB := Lib.hid (hf.other h4 (by decide))
  have hz : (cmpO o key key != 0) = false := by rw [cmp_eq]; rfl
  have H5K := Lib.hid h5k
  clear hcall h4 h5 hn hs a1 a2 hf h5k hx hg
  go_enter Try.func103, Try.ntmps103
  go_wp2_with fail
  refine HI.out.mono ?_
  rintro e w1 ⟨rfl, hb⟩
  have h4 := cell_at (j := 0) (below_at hb H4.out) rfl
  have h5k := bcell hb H5K.out.1
  have HB := Lib.hid hb
  clear HI hb
  have hi' : (n : Int) < (es.length : Int) := by omega
  have hi0 : (0 : Int) ≤ (n : Int) := by omega
  have hlt : decide ((es.length : Int) ≤ (n : Int)) = false := by simp; omega
  have hlt2 : ¬ es.length ≤ n := by omega
  go_upto_region 2 with (fail)
  refine region_tail 21 (by kernel_rfl) (by kernel_rfl) ?_
  simp only [List.take_succ_cons, List.take_zero, List.drop_succ_cons, List.drop_zero]
  repeat still_step
  refine wpStill_nil ?_
  go_wp2_with fail
  refine (HC.out _ _ _).mono ?_
  rintro e w' ⟨rfl, rfl⟩
  have HBX : Hid (Below w.heap.size w w1.drew) := HB.out.drew
  clear h4 h5k
  generalize w1.drew = W0 at HBX ⊢
  clear HB HC
  have HF1 := Lib.hid (HF.out.below HBX.out)
  have hr' := cell_at (j := 0) HF1.out rfl
  have hz' : W0.frozen? ⟨rb, 0, none⟩ = false := frozen_of_row _ _ _ _ _ HF1.out
  have HB1 : Hid (But (· = rb) w W0) := But.of_below HBX.out
  go_upto_region 5 with (fail)
  have HB2 : Hid (But (· = rb) w (W0.setCell ⟨rb, 0, none⟩ (.bool true))) := HB1.out.set _
  have HF2 : Hid (Flag (W0.setCell ⟨rb, 0, none⟩ (.bool true)) rb true) := HF1.out.set true
  clear hr' hz' HF1 HB1 HBX
  generalize W0.setCell ⟨rb, 0, none⟩ (.bool true) = W at HB2 HF2 ⊢
  clear W0
  have h4 := cell_at (j := 0) (HB2.out.at H4.out HNB.out) rfl
  by_cases h1 : es.length = 1
  · have hd : ((es.length : Int) == 1) = true := by rw [h1]; rfl
    have hdel : del (ltO o) es key = [] := by
      rw [HE.out]
      obtain rfl : n = 0 := by omega
      rw [List.take_zero, List.drop_of_length_le (by omega)]
      rfl
    have HDL := Lib.hid hdel
    clear hdel h1
    go_wp2_with fail
    go_ret
    exact ⟨HB2.out, HF2.out, .inr (.inl ⟨rfl, HDL.out, rfl⟩)⟩
  · have hd : ((es.length : Int) == 1) = false := by simp; omega
    obtain ⟨N, hN⟩ : ∃ N, N = es.length - 1 := ⟨_, rfl⟩
    have hwa : IntKind.i64.wrap ((es.length : Int) - 1) = (N : Int) := by rw [IntKind.wrap_i64]; omega
    have hwb : (es.length : Int) - 1 = (N : Int) := by omega
    have hwc : IntKind.i64.wrap (N : Int) = (N : Int) := by rw [IntKind.wrap_i64]; omega
    obtain ⟨Z, hZl, hmk⟩ := make141 W N (by omega)
    have HN := Lib.hid hN
    have HZL := Lib.hid hZl
    have HLN : Hid (es.length ≠ 1) := h1
    clear hN hZl h1
    go_upto_region 13 with (fail)
    have HLS := Lib.hid (ls_make (Z := Z) (N := N) HB2.out HF2.out)
    clear h4 hmk hwa hwb hwc hd HB2 HF2
    generalize ((W.alloc (Obj.cells Z.toArray 140)).alloc (Obj.cells #[Value.slice (some ⟨W.heap.size, 0, none⟩) N N] 143)) = W3 at HLS ⊢
    generalize W.heap.size = b at HLS ⊢
    clear W
    obtain ⟨ob, hob⟩ : ∃ ob, ob = b + 1 := ⟨_, rfl⟩
    rw [← hob] at HLS ⊢
    clear hob
    have HSRC : Hid (∀ W, But (· = rb) w W → ∀ j v, (ecells es)[j]? = some v → W.cell? ((⟨g, q, none⟩ : Addr).add j) = some v) := fun W hW => src_cells fun i y hy => by
      have hgs : g < w.heap.size := World.block_lt_of_cell? w _ (H5.out i y hy).1
      have h6 := hW.block g hgs HNR.out
      exact ⟨by rw [World.cell?, h6]; exact (H5.out i y hy).1, by rw [World.cell?, h6]; exact (H5.out i y hy).2⟩
    have h4 := cell_at (j := 0) (HLS.out.1.at H4.out HNB.out) rfl
    have h41 := cell_at (j := 0) HLS.out.2.2.1 rfl
    have hnN : n ≤ N := by have := HN.out; omega
    have hnc : n ≤ c := by omega
    refine region_tail 12 (by kernel_rfl) (by kernel_rfl) ?_
    simp only [List.take_succ_cons, List.take_zero, List.drop_succ_cons, List.drop_zero]
    repeat still_step
    refine wpStill_nil ?_
    obtain ⟨c1, hcc1⟩ : ∃ c1, c1 = ecells (es.take n) := ⟨_, rfl⟩
    obtain ⟨c2, hcc2⟩ : ∃ c2, c2 = ecells (es.drop (n + 1)) := ⟨_, rfl⟩
    have hl1 : c1.length = n * 2 := by rw [hcc1, ecells_len, List.length_take, Nat.min_eq_left (by omega)]
    have hl2 : c2.length = (N - n) * 2 := by rw [hcc2, ecells_len, List.length_drop]; have := HN.out; congr 1; omega
    have HC := Lib.hid (And.intro hcc1 hcc2)
    have HC1 := Lib.hid hl1
    have HC2 := Lib.hid hl2
    clear hcc1 hcc2 hl1 hl2
    refine wpList_copy_kk rfl (.tmp 108) (.tmp 114) 141 141 rfl 140 2 Try.underlying141 size140 (some ⟨b, 0, none⟩) (some ⟨g, q, none⟩) n N n c rfl rfl b 0 Z 140 HLS.out.drew.2.2.2.1 c1 n (Nat.min_self _).symm HC1.out (fun _ => ⟨rfl, _, rfl, fun j v hj => HSRC.out _ HLS.out.drew.1 j v ?_⟩) (by rw [HC1.out, HZL.out]; omega) (by rw [HC.out.1]; exact ecells_one) ?_
    · rw [ecells_take es n, ← HC.out.1, List.getElem?_append_left (List.getElem?_eq_some_iff.1 hj).1]
      exact hj
    intro W4 hg4 hb4
    have HLS4 := Lib.hid (HLS.out.drew.step hb4.out hg4.out)
    clear hg4 hb4 HLS h4 h41
    clear W3
    go_upto_region 14 with (fail)
    have h4 := cell_at (j := 0) (HLS4.out.1.at H4.out HNB.out) rfl
    have h41 := cell_at (j := 0) HLS4.out.2.2.1 rfl
    have hw1 : IntKind.i64.wrap ((n : Int) + 1) = (n : Int) + 1 := by rw [IntKind.wrap_i64]; omega
    obtain ⟨e1, he1, hs1⟩ := slice141_l b 0 N N n hnN (Nat.le_refl _)
    obtain ⟨e2, he2, hs2⟩ := slice141_l g q es.length c (n + 1) (by omega) hcap
    have hs2 : ∀ w : World, (Instr.slice 141 (.slice (some ⟨g, q, none⟩) es.length c) (some (.int .i64 ((n : Int) + 1))) none none).run Try.prog w = .ok (.slice (some e2) (es.length - (n + 1)) (c - (n + 1))) w := hs2
    have HD := Lib.hid (And.intro he1 he2)
    clear he1 he2
    refine region_tail 13 (by kernel_rfl) (by kernel_rfl) ?_
    simp only [List.take_succ_cons, List.take_zero, List.drop_succ_cons, List.drop_zero]
    repeat still_step
    refine wpStill_nil ?_
    refine wpList_copy_kk rfl (.tmp 121) (.tmp 128) 141 141 rfl 140 2 Try.underlying141 size140 (some e1) (some e2) (N - n) (N - n) (es.length - (n + 1)) (c - (n + 1)) rfl rfl b c1.length (splice Z 0 c1) 140 HLS4.out.drew.2.2.2.1 c2 (N - n) (by show _ = min _ _; have := HN.out; omega) HC2.out (fun h9 => ⟨by rw [HD.out.1 (by omega), Nat.zero_add, HC1.out], e2, rfl, fun j v hj => ?_⟩)
      (by rw [length_splice _ _ _ (by rw [HC1.out, HZL.out]; omega), HC2.out, HC1.out, HZL.out]; omega) (by rw [HC.out.2]; exact ecells_one) ?_
    · have h7 := HSRC.out _ HLS4.out.drew.1 ((n + 1) * 2 + j) v (by rw [ecells_take es (n + 1), ← HC.out.2, List.getElem?_append_right (by rw [ecells_len, List.length_take]; omega), ecells_len, List.length_take, Nat.min_eq_left (by omega), show (n + 1) * 2 + j - (n + 1) * 2 = j by omega]; exact hj)
      rw [addr_add] at h7
      rw [HD.out.2 (by have := HN.out; omega), addr_add, Nat.add_assoc]
      exact h7
    intro W5 hg5 hb5
    have hrow := hg5.out
    rw [splice_two (by rw [HC1.out, HC2.out, HZL.out]; omega), HC.out.1, HC.out.2, ← ecells_append] at hrow
    have HLS5 := Lib.hid (HLS4.out.drew.step hb5.out hrow)
    clear hrow hg5 hb5 HLS4 h4 h41 hs1 hs2 HD HSRC hw1
    clear W4
    go_wp2_with fail
    go_ret
    have hlen : (es.take n ++ es.drop (n + 1)).length = N := by rw [List.length_append, List.length_take, List.length_drop]; have := HN.out; omega
    refine ⟨HLS5.out.1, HLS5.out.2.1, .inr (.inr ⟨rfl, _, N, rfl, by have := HN.out; omega, ⟨ob, _, rfl, HLS5.out.2.2.1, ?_, ?_, ?_⟩, ?_⟩)⟩
    · rw [HE.out]
      have := ents_all HLS5.out.2.2.2.1
      rw [hlen] at this
      exact this
    · rw [HE.out]
      intro e
      rw [e] at hlen
      simp only [List.length_nil] at hlen
      have := HN.out
      have := HLN.out
      omega
    · rw [HE.out, hlen]; have := HN.out; omega
    · rw [HE.out, hlen]
end Go.Proofs.Ytefigjdebakccaa
