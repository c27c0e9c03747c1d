/- The walks over a leaf: set (as a copy). -/
import Derived.Test.YtefigjdebakccaaEnt
namespace Go.Proofs.Ytefigjdebakccaa
open Go.RowKit

theorem ins_ne {lt : Int → Int → Bool} (es : List (Int × Int)) (k v : Int) : ins lt es k v ≠ [] := by unfold ins; simp
theorem row_mid {c1 Z2 : List Value} {z0 z1 u v : Value} {n : Nat} (h : c1.length = n) : ((c1 ++ z0 :: z1 :: Z2).toArray.setIfInBounds n u).setIfInBounds (n + 1) v = (c1 ++ u :: v :: Z2).toArray := by
  subst h
  apply Array.ext'
  simp
theorem row_rear {c1 c2 Z2 : List Value} {u v : Value} {n : Nat} (h : c1.length = n) (h2 : Z2.length = c2.length) : splice (c1 ++ u :: v :: Z2) (n + 2) c2 = c1 ++ u :: v :: c2 := by
  subst h
  unfold splice
  have e1 : (c1 ++ u :: v :: Z2).take (c1.length + 2) = c1 ++ [u, v] := by
    rw [List.take_append, List.take_of_length_le (by omega)]
    simp
  have e2 : (c1 ++ u :: v :: Z2).drop (c1.length + 2 + c2.length) = [] := by
    apply List.drop_eq_nil_of_le
    simp only [List.length_append, List.length_cons]
    omega
  rw [e1, e2]
  simp
theorem lset_one (w W : World) (rb b n N H : Nat) (fl : Bool) (es' : List (Int × Int)) (hH : W.heap.size = H) (hb : But (· = rb) w W) (hf : Flag W rb fl) (hr : W.heap[b]? = some (.cells (ecells es').toArray 140 (0, 0))) (h0 : es' ≠ []) (hN : N = es'.length) (hl : N ≤ 32) (hn : N ≤ n + 1) :
    SSet w rb fl 0 n es' (.returned (.tuple #[.iface 138 (.pointer (some ⟨H, 0, none⟩)), .nilIface])) (W.alloc (.cells #[.slice (some ⟨b, 0, none⟩) N N] 143)) := by
  subst hN hH
  refine ⟨hb.alloc _, at_alloc hf, .inl ⟨_, es'.length, rfl, hn, ⟨W.heap.size, _, rfl, heap_alloc_last W _, ?_, h0, hl⟩, rfl⟩⟩
  exact ents_all (at_alloc hr)
theorem lset_two (w W : World) (rb b n H : Nat) (fl : Bool) (es' : List (Int × Int)) (hH : W.heap.size = H) (hb : But (· = rb) w W) (hf : Flag W rb fl) (hr : W.heap[b]? = some (.cells (ecells es').toArray 140 (0, 0))) (hN : es'.length = 33) (hn : n = 32) :
    SSet w rb fl 0 n es' (.returned (.tuple #[.iface 138 (.pointer (some ⟨H, 0, none⟩)), .iface 138 (.pointer (some ⟨H + 1, 0, none⟩))]))
      ((W.alloc (.cells #[.slice (some ⟨b, 0, none⟩) 16 16] 143)).alloc (.cells #[.slice (some ⟨b, 32, none⟩) 17 17] 143)) := by
  subst hH
  refine ⟨(hb.alloc _).alloc _, at_alloc (at_alloc hf), .inr ⟨hn, _, _, es'.take 16, es'.drop 16, rfl, (List.take_append_drop 16 es').symm, ⟨_, _, rfl, at_alloc (heap_alloc_last W _), ?_, ?_, ?_⟩, ⟨W.heap.size + 1, .slice (some ⟨b, 32, none⟩) 17 17, rfl, ?_, ?_, ?_, ?_⟩⟩⟩
  · exact ents_take (at_alloc (at_alloc hr)) (by omega)
  · intro e; have := congrArg List.length e; rw [List.length_take, List.length_nil] at this; omega
  · rw [List.length_take]; omega
  · have h := heap_alloc_last (W.alloc (.cells #[.slice (some ⟨b, 0, none⟩) 16 16] 143)) (.cells #[.slice (some ⟨b, 32, none⟩) 17 17] 143)
    rw [size_alloc] at h
    exact h
  · exact ents_drop (k := 16) (at_alloc (at_alloc hr)) (by omega) (by omega)
  · intro e; have := congrArg List.length e; rw [List.length_drop, List.length_nil] at this; omega
  · rw [List.length_drop]; omega

set_option maxRecDepth 100000 in
set_option maxHeartbeats 1600000 in
theorem leafSet_old (o : Nat) (cv : Value) (hc : CmpIs o cv) (key val x : Int) (nb g q c rb : Nat) (es : List (Int × Int)) (hs : Srt (ltO o) es) (hl : es.length ≤ 32) (w : World) (r : Bool) (hf : Flag w rb r)
    (h4 : w.heap[nb]? = some (.cells #[.slice (some ⟨g, q, none⟩) es.length c] 143 (0, 0))) (h5 : ∀ (i : Nat) (e : Int × Int), es[i]? = some e → w.cell? ⟨g, q + i * 2, none⟩ = some (.int .i64 e.1) ∧ w.cell? ⟨g, q + i * 2 + 1, none⟩ = some (.int .i64 e.2))
    (hx : look (ltO o) es key = some x) :
    Calls Try.prog 107 #[.pointer (some ⟨nb, 0, none⟩), .int .i64 key, .int .i64 val, cv, .bool false, .pointer (some ⟨rb, 0, none⟩)] w (SSet w rb r 0 es.length (ins (ltO o) es key val)) := by
  have HI := Lib.hid (leafIdx_w o cv hc key nb g q c es hs (by omega) w (cell_at h4 rfl) fun i e hi => (h5 i e hi).1)
  obtain ⟨a1, a2⟩ := (at_look (ord_ltO o) hs key).1 x hx
  have HE := Lib.hid (ins_old (ord_ltO o) hs val hx)
  obtain ⟨n, hn⟩ : ∃ n, n = at_ (ltO o) es key := ⟨_, rfl⟩
  rw [← hn] at HI HE a1
  have hnl : n < es.length := (List.getElem?_eq_some_iff.1 a1).1
  have HA := Lib.hid a1
  have h5k := h5 n _ a1
  obtain ⟨ty, v, fid, rfl, ⟨d1, d2, d3⟩, hcall⟩ := hc
  have HC := Lib.hid hcall
  have H4 := Lib.hid h4
  have H5 := Lib.hid h5
  have HF := Lib.hid hf
  have hz : (cmpO o key key == 0) = true := by rw [cmp_eq]; rfl
  have H5K := Lib.hid h5k
  clear hcall h4 h5 hn hs a1 a2 hf h5k hx
  go_enter Try.func107, Try.ntmps107
  go_wp2_with fail
  refine HI.out.mono ?_
  rintro e w1 ⟨rfl, hb⟩
  have h4 := cell_at (j := 0) (below_at hb H4.out) rfl
  have h5k := bcell hb H5K.out.1
  have HB := Lib.hid hb
  clear HI hb
  have hi' : (n : Int) < (es.length : Int) := by omega
  have hi0 : (0 : Int) ≤ (n : Int) := by omega
  have hlt : decide ((n : Int) < (es.length : Int)) = true := by simp; omega
  go_upto_region 2 with (fail)
  refine region_tail 21 (by kernel_rfl) (by kernel_rfl) ?_
  simp only [List.take_succ_cons, List.take_zero, List.drop_succ_cons, List.drop_zero]
  repeat still_step
  refine wpStill_nil ?_
  go_wp2_with fail
  refine (HC.out _ _ _).mono ?_
  rintro e w' ⟨rfl, rfl⟩
  have HBX : Hid (Below w.heap.size w w1.drew) := HB.out.drew
  clear h4 h5k
  generalize w1.drew = W at HBX ⊢
  clear HB HC
  have h4 := cell_at (j := 0) (below_at HBX.out H4.out) rfl
  obtain ⟨Z, hZl, hmk⟩ := make141 W es.length (by omega)
  have HZL := Lib.hid hZl
  clear hZl
  go_upto_region 18 with (fail)
  have HA1 : Hid (Below w.heap.size w (W.alloc (Obj.cells Z.toArray 140))) := HBX.out.alloc HBX.out.size _
  have HR1 : Hid ((W.alloc (Obj.cells Z.toArray 140)).heap[W.heap.size]? = some (.cells Z.toArray 140 (0, 0))) := heap_alloc_last W _
  have HGE : Hid (w.heap.size ≤ W.heap.size) := HBX.out.size
  clear h4 hmk HBX
  generalize W.alloc (Obj.cells Z.toArray 140) = W1 at HA1 HR1 ⊢
  generalize W.heap.size = b at HR1 HGE ⊢
  clear W
  have h4 := cell_at (j := 0) (below_at HA1.out H4.out) rfl
  have HSRC : Hid (∀ j v, (ecells es)[j]? = some v → W1.cell? ((⟨g, q, none⟩ : Addr).add j) = some v) := src_cells fun i y hy => ⟨bcell HA1.out (H5.out i y hy).1, bcell HA1.out (H5.out i y hy).2⟩
  go_wp2_with (refine wpList_copy_kk rfl (.tmp 131) (.tmp 135) 141 141 rfl 140 2 Try.underlying141 size140 (some ⟨b, 0, none⟩) (some ⟨g, q, none⟩) es.length es.length es.length c rfl rfl b 0 Z 140 HR1.out (ecells es) es.length (Nat.min_self _).symm (ecells_len es) (fun _ => ⟨rfl, _, rfl, HSRC.out⟩) (by rw [ecells_len]; have := HZL.out; omega) ecells_one ?_)
  intro W2 hg2 hb2
  have HB2 : Hid (Below w.heap.size w W2) := But.below' HA1.out HGE.out HA1.out.size hb2.out
  have hrow := hg2.out
  rw [splice_all (by rw [ecells_len]; have := HZL.out; omega), List.drop_of_length_le (by rw [ecells_len]; have := HZL.out; omega), List.append_nil] at hrow
  have HROW := Lib.hid hrow
  clear hrow hg2 hb2 HSRC h4 HA1 HR1
  clear W1
  obtain ⟨hg0', hg1'⟩ := ecells_at HA.out
  have hg0 : W2.cell? ⟨b, n * 2, none⟩ = some (.int .i64 key) := cell_at HROW.out (by rw [List.getElem?_toArray]; exact hg0')
  have hg1 : W2.cell? ⟨b, n * 2 + 1, none⟩ = some (.int .i64 x) := cell_at HROW.out (by rw [List.getElem?_toArray]; exact hg1')
  have hf0 : W2.frozen? ⟨b, n * 2, none⟩ = false := frozen_of_row _ _ _ _ _ HROW.out
  have hf1 : W2.frozen? ⟨b, n * 2 + 1, none⟩ = false := frozen_of_row _ _ _ _ _ HROW.out
  have h32 : decide ((32 : Int) < (es.length : Int)) = false := by simp; omega
  clear hg0' hg1'
  go_wp2_with fail
  go_ret2
  have hrb : rb ≠ b := by have := lt_of_block HF.out; have := HGE.out; omega
  have hes : es.take n ++ (key, val) :: es.drop (n + 1) = es.set n (key, val) := (set_take es n (by omega) _).symm
  rw [HE.out, hes]
  refine lset_one w _ rb b es.length es.length W2.heap.size r (es.set n (key, val)) (by simp) ?_ ?_ ?_ ?_ (by rw [List.length_set]) hl (by omega)
  · exact ((But.of_below HB2.out).setCell (.inr HGE.out) _).setCell (.inr HGE.out) _
  · show ((W2.setCell ⟨b, n * 2, none⟩ _).setCell ⟨b, n * 2 + 1, none⟩ _).heap[rb]? = _
    rw [heap_setCell_other _ _ _ _ hrb, heap_setCell_other _ _ _ _ hrb]
    exact HF.out.below HB2.out
  · rw [← ecells_set es n (key, val)]
    exact heap_setCell_same _ _ _ _ _ _ (heap_setCell_same _ _ _ _ _ _ HROW.out)
  · intro e
    have := congrArg List.length e
    rw [List.length_set, List.length_nil] at this
    omega

set_option maxRecDepth 100000 in
set_option maxHeartbeats 3200000 in
theorem leafSet_new (o : Nat) (cv : Value) (hc : CmpIs o cv) (key val : Int) (nb g q c rb : Nat) (es : List (Int × Int)) (hs : Srt (ltO o) es) (hl : es.length ≤ 32) (hcap : es.length ≤ c) (w : World) (r : Bool) (hf : Flag w rb r)
    (h4 : w.heap[nb]? = some (.cells #[.slice (some ⟨g, q, none⟩) es.length c] 143 (0, 0))) (h5 : ∀ (i : Nat) (e : Int × Int), es[i]? = some e → w.cell? ⟨g, q + i * 2, none⟩ = some (.int .i64 e.1) ∧ w.cell? ⟨g, q + i * 2 + 1, none⟩ = some (.int .i64 e.2))
    (hg : g ≠ rb) (hx : look (ltO o) es key = none) :
    Calls Try.prog 107 #[.pointer (some ⟨nb, 0, none⟩), .int .i64 key, .int .i64 val, cv, .bool false, .pointer (some ⟨rb, 0, none⟩)] w (SSet w rb true 0 es.length (ins (ltO o) es key val)) := by
  have HI := Lib.hid (leafIdx_w o cv hc key nb g q c es hs (by omega) w (cell_at h4 rfl) fun i e hi => (h5 i e hi).1)
  obtain ⟨a1, a2⟩ := (at_look (ord_ltO o) hs key).2 hx
  have HE := Lib.hid (ins_new (ord_ltO o) hs val hx)
  have hnl := at_le (lt := ltO o) es key
  obtain ⟨n, hn⟩ : ∃ n, n = at_ (ltO o) es key := ⟨_, rfl⟩
  rw [← hn] at HI HE a1 hnl
  have HA := Lib.hid a1
  obtain ⟨ty, v, fid, rfl, ⟨d1, d2, d3⟩, hcall⟩ := hc
  have HC := Lib.hid hcall
  have H4 := Lib.hid h4
  have H5 := Lib.hid h5
  have HF := Lib.hid hf
  have HNR := Lib.hid hg
  have HNB := Lib.hid (hf.other h4 (by decide))
  clear hcall h4 h5 hn hs a1 a2 hf hx hg
  go_enter Try.func107, Try.ntmps107
  go_wp2_with fail
  refine HI.out.mono ?_
  rintro e w1 ⟨rfl, hb⟩
  have h4 := cell_at (j := 0) (below_at hb H4.out) rfl
  have HB := Lib.hid hb
  clear HI hb
  go_upto_region 2 with (fail)
  go_cut [15] from 27 to 50 (fun v wc => v = .bool false ∧ Below w.heap.size w wc)
  case first =>
    by_cases hne : n = es.length
    · have hlt : decide ((n : Int) < (es.length : Int)) = false := by simp; omega
      have hlt2 : ¬ n < es.length := by omega
      clear hne HA
      refine region_still (by kernel_rfl) (by kernel_rfl) (Veil.out ?_)
      repeat (refine v_step (fun K hK => ?_); go_simp; refine hK _ ?_; clear hK K)
      refine v_nil ⟨?_⟩
      go_wp2_with fail
      go_meet
      case rel => exact ⟨rfl, HB.out.drew⟩
    · have hi' : (n : Int) < (es.length : Int) := by omega
      have hi0 : (0 : Int) ≤ (n : Int) := by omega
      have hlt : decide ((n : Int) < (es.length : Int)) = true := by simp; omega
      obtain ⟨y, hy⟩ : ∃ y, es[n]? = some y := ⟨_, List.getElem?_eq_getElem (show n < es.length by omega)⟩
      have h5k := bcell HB.out (H5.out n y hy).1
      have hz : (cmpO o y.1 key == 0) = false := by
        have : cmpO o y.1 key ≠ 0 := fun e => HA.out y hy (cmp_zero.1 e)
        simpa using this
      clear hne hy
      refine region_tail 21 (by kernel_rfl) (by kernel_rfl) ?_
      simp only [List.take_succ_cons, List.take_zero, List.drop_succ_cons, List.drop_zero]
      repeat still_step
      refine wpStill_nil ?_
      go_wp2_with fail
      refine (HC.out _ _ _).mono ?_
      rintro e w' ⟨rfl, rfl⟩
      go_wp2_with fail
      go_meet
      case rel => exact ⟨rfl, HB.out.drew⟩
  case rest =>
  obtain ⟨rfl, hb⟩ := hcut
  have HF1 := Lib.hid (HF.out.below hb)
  have hr' := cell_at (j := 0) HF1.out rfl
  have hz' : wc.frozen? ⟨rb, 0, none⟩ = false := frozen_of_row _ _ _ _ _ HF1.out
  have HB1 : Hid (But (· = rb) w wc) := But.of_below hb
  clear h4 hb HB HC
  go_upto_region 21 with (fail)
  have HB2 : Hid (But (· = rb) w (wc.setCell ⟨rb, 0, none⟩ (.bool true))) := HB1.out.set _
  have HF2 : Hid (Flag (wc.setCell ⟨rb, 0, none⟩ (.bool true)) rb true) := HF1.out.set true
  clear hr' hz' HF1 HB1
  generalize wc.setCell ⟨rb, 0, none⟩ (.bool true) = W at HB2 HF2 ⊢
  clear wc
  have h4 := cell_at (j := 0) (HB2.out.at H4.out HNB.out) rfl
  obtain ⟨N, hN⟩ : ∃ N, N = es.length + 1 := ⟨_, rfl⟩
  have hwN : IntKind.i64.wrap ((es.length : Int) + 1) = (N : Int) := by rw [IntKind.wrap_i64]; omega
  have hwN' : (es.length : Int) + 1 = (N : Int) := by omega
  obtain ⟨Z, hZl, hmk⟩ := make141 W N (by omega)
  have HZL := Lib.hid hZl
  have HN := Lib.hid hN
  clear hZl hN
  go_upto_region 22 with (fail)
  have HB3 : Hid (But (· = rb) w (W.alloc (Obj.cells Z.toArray 140))) := HB2.out.alloc _
  have HF3 : Hid (Flag (W.alloc (Obj.cells Z.toArray 140)) rb true) := at_alloc HF2.out
  have HR3 : Hid ((W.alloc (Obj.cells Z.toArray 140)).heap[W.heap.size]? = some (.cells Z.toArray 140 (0, 0))) := heap_alloc_last W _
  have HGE : Hid (w.heap.size ≤ W.heap.size) := HB2.out.size
  have HRB : Hid (rb < W.heap.size) := lt_of_block HF2.out
  clear h4 hmk HB2 HF2 hwN hwN'
  generalize W.alloc (Obj.cells Z.toArray 140) = W1 at HB3 HF3 HR3 ⊢
  generalize W.heap.size = b at HR3 HGE HRB ⊢
  clear W
  have HSRC : Hid (∀ W, But (· = rb) w W → ∀ j v, (ecells es)[j]? = some v → W.cell? ((⟨g, q, none⟩ : Addr).add j) = some v) := fun W hW => src_cells fun i y hy => by
    have hgs : g < w.heap.size := World.block_lt_of_cell? w _ (H5.out i y hy).1
    have h6 := hW.block g hgs HNR.out
    exact ⟨by rw [World.cell?, h6]; exact (H5.out i y hy).1, by rw [World.cell?, h6]; exact (H5.out i y hy).2⟩
  have h4 := cell_at (j := 0) (HB3.out.at H4.out HNB.out) rfl
  have hnN : n ≤ N := by have := HN.out; omega
  have hnc : n ≤ c := by omega
  refine region_tail 9 (by kernel_rfl) (by kernel_rfl) ?_
  simp only [List.take_succ_cons, List.take_zero, List.drop_succ_cons, List.drop_zero]
  repeat still_step
  refine wpStill_nil ?_
  obtain ⟨c1, hcc1⟩ : ∃ c1, c1 = ecells (es.take n) := ⟨_, rfl⟩
  obtain ⟨c2, hcc2⟩ : ∃ c2, c2 = ecells (es.drop n) := ⟨_, rfl⟩
  have hl1 : c1.length = n * 2 := by rw [hcc1, ecells_len, List.length_take, Nat.min_eq_left hnl]
  have hl2 : c2.length = (es.length - n) * 2 := by rw [hcc2, ecells_len, List.length_drop]
  have HC := Lib.hid (And.intro hcc1 hcc2)
  have HC1 := Lib.hid hl1
  have HC2 := Lib.hid hl2
  clear hcc1 hcc2 hl1 hl2
  refine wpList_copy_kk rfl (.tmp 154) (.tmp 160) 141 141 rfl 140 2 Try.underlying141 size140 (some ⟨b, 0, none⟩) (some ⟨g, q, none⟩) n N n c rfl rfl b 0 Z 140 HR3.out c1 n (Nat.min_self _).symm HC1.out (fun _ => ⟨rfl, _, rfl, fun j v hj => HSRC.out _ HB3.out.drew j v ?_⟩) (by rw [HC1.out, HZL.out]; omega) (by rw [HC.out.1]; exact ecells_one) ?_
  · rw [ecells_take es n, ← HC.out.1, List.getElem?_append_left (List.getElem?_eq_some_iff.1 hj).1]
    exact hj
  intro W4 hg4 hb4
  have HB4 : Hid (But (· = rb) w W4) := But.more HB3.out.drew HGE.out hb4.out
  have HF4 : Hid (Flag W4 rb true) := (hb4.out.block rb (lt_of_block HF3.out) (by have := HRB.out; omega)).trans HF3.out
  have hrow := hg4.out
  rw [splice_all (by rw [HC1.out, HZL.out]; omega)] at hrow
  obtain ⟨z0, z1, Z2, hz⟩ : ∃ z0 z1 Z2, Z.drop c1.length = z0 :: z1 :: Z2 := by
    have hl : 2 ≤ (Z.drop c1.length).length := by rw [List.length_drop, HC1.out, HZL.out]; have := HN.out; omega
    match h : Z.drop c1.length, hl with
    | z0 :: z1 :: Z2, _ => exact ⟨z0, z1, Z2, rfl⟩
  rw [hz] at hrow
  have hz2l : Z2.length = c2.length := by
    have := congrArg List.length hz
    rw [List.length_drop, HC1.out, HZL.out] at this
    rw [HC2.out]
    simp only [List.length_cons] at this
    have := HN.out
    omega
  have HROW := Lib.hid hrow
  have HZ2 := Lib.hid hz2l
  clear hrow hz hz2l hg4 hb4 HB3 HF3 HR3 h4 HZL
  clear W1
  have hg0 : W4.cell? ⟨b, n * 2, none⟩ = some z0 := cell_at HROW.out (by rw [List.getElem?_toArray, List.getElem?_append_right (by rw [HC1.out]; omega), HC1.out, Nat.sub_self]; rfl)
  have hg1 : W4.cell? ⟨b, n * 2 + 1, none⟩ = some z1 := cell_at HROW.out (by rw [List.getElem?_toArray, List.getElem?_append_right (by rw [HC1.out]; omega), HC1.out, show n * 2 + 1 - n * 2 = 1 by omega]; rfl)
  have hf0 : W4.frozen? ⟨b, n * 2, none⟩ = false := frozen_of_row _ _ _ _ _ HROW.out
  have hf1 : W4.frozen? ⟨b, n * 2 + 1, none⟩ = false := frozen_of_row _ _ _ _ _ HROW.out
  have hnN1 : (n : Int) < (N : Int) := by have := HN.out; omega
  go_upto_region 24 with (fail)
  have HB5 : Hid (But (· = rb) w ((W4.setCell ⟨b, n * 2, none⟩ (.int .i64 key)).setCell ⟨b, n * 2 + 1, none⟩ (.int .i64 val))) := (HB4.out.setCell (.inr HGE.out) _).setCell (.inr HGE.out) _
  have HF5 : Hid (Flag ((W4.setCell ⟨b, n * 2, none⟩ (.int .i64 key)).setCell ⟨b, n * 2 + 1, none⟩ (.int .i64 val)) rb true) := by
    show ((W4.setCell ⟨b, n * 2, none⟩ _).setCell ⟨b, n * 2 + 1, none⟩ _).heap[rb]? = _
    have hrb : rb ≠ b := by have := HRB.out; have := lt_of_block HF.out; have := HGE.out; omega
    rw [heap_setCell_other _ _ _ _ hrb, heap_setCell_other _ _ _ _ hrb]
    exact HF4.out
  have HR5 : Hid (((W4.setCell ⟨b, n * 2, none⟩ (.int .i64 key)).setCell ⟨b, n * 2 + 1, none⟩ (.int .i64 val)).heap[b]? = some (.cells (c1 ++ .int .i64 key :: .int .i64 val :: Z2).toArray 140 (0, 0))) := by
    refine (heap_setCell_same _ _ _ _ _ _ (heap_setCell_same _ _ _ _ _ _ HROW.out)).trans ?_
    rw [row_mid HC1.out]
  clear hg0 hg1 hf0 hf1 HROW HB4 HF4
  generalize (W4.setCell ⟨b, n * 2, none⟩ (.int .i64 key)).setCell ⟨b, n * 2 + 1, none⟩ (.int .i64 val) = W5 at HB5 HF5 HR5 ⊢
  clear W4
  have h4 := cell_at (j := 0) (HB5.out.at H4.out HNB.out) rfl
  have hw1 : IntKind.i64.wrap ((n : Int) + 1) = (n : Int) + 1 := by rw [IntKind.wrap_i64]; omega
  obtain ⟨e1, he1, hs1⟩ := slice141_l b 0 N N (n + 1) (by have := HN.out; omega) (Nat.le_refl _)
  obtain ⟨e2, he2, hs2⟩ := slice141_l g q es.length c n hnl hcap
  have hs1 : ∀ w : World, (Instr.slice 141 (.slice (some ⟨b, 0, none⟩) N N) (some (.int .i64 ((n : Int) + 1))) none none).run Try.prog w = .ok (.slice (some e1) (N - (n + 1)) (N - (n + 1))) w := hs1
  have HD := Lib.hid (And.intro he1 he2)
  clear he1 he2
  refine region_tail 10 (by kernel_rfl) (by kernel_rfl) ?_
  simp only [List.take_succ_cons, List.take_zero, List.drop_succ_cons, List.drop_zero]
  repeat still_step
  refine wpStill_nil ?_
  refine wpList_copy_kk rfl (.tmp 171) (.tmp 177) 141 141 rfl 140 2 Try.underlying141 size140 (some e1) (some e2) (N - (n + 1)) (N - (n + 1)) (es.length - n) (c - n) rfl rfl b (n * 2 + 2) (c1 ++ .int .i64 key :: .int .i64 val :: Z2) 140 HR5.out c2 (es.length - n) (by show _ = min _ _; have := HN.out; omega) HC2.out (fun h9 => ⟨by rw [HD.out.1 (by have := HN.out; omega), Nat.zero_add, show (n + 1) * 2 = n * 2 + 2 by omega], e2, rfl, fun j v hj => ?_⟩)
    (by rw [List.length_append, List.length_cons, List.length_cons, HC1.out, HZ2.out]; omega) (by rw [HC.out.2]; exact ecells_one) ?_
  · have h7 := HSRC.out _ HB5.out.drew (n * 2 + j) v (by rw [ecells_take es n, ← HC.out.1, ← HC.out.2, List.getElem?_append_right (by rw [HC1.out]; omega), HC1.out, show n * 2 + j - n * 2 = j by omega]; exact hj)
    rw [addr_add] at h7
    rw [HD.out.2 (by omega), addr_add, Nat.add_assoc]
    exact h7
  intro W6 hg6 hb6
  have HB6 : Hid (But (· = rb) w W6) := But.more HB5.out.drew HGE.out hb6.out
  have HF6 : Hid (Flag W6 rb true) := (hb6.out.block rb (lt_of_block HF5.out) (by have := lt_of_block HF.out; have := HGE.out; omega)).trans HF5.out
  have hrow := hg6.out
  rw [row_rear HC1.out HZ2.out] at hrow
  have hrow2 : W6.heap[b]? = some (.cells (ecells (es.take n ++ (key, val) :: es.drop n)).toArray 140 (0, 0)) := by
    rw [ecells_append, ecells_cons, ← HC.out.1, ← HC.out.2]
    exact hrow
  have HROW := Lib.hid hrow2
  clear hrow hrow2 hg6 hb6 HB5 HF5 HR5 h4 hs1 hs2 HD HSRC hw1
  clear W5
  have hNl : (es.take n ++ (key, val) :: es.drop n).length = N := by
    rw [List.length_append, List.length_take, List.length_cons, List.length_drop]
    have := HN.out
    omega
  have HNL := Lib.hid hNl
  clear hNl
  by_cases hb : N ≤ 32
  · have hd : decide ((32 : Int) < (N : Int)) = false := by simp; omega
    go_wp2_with fail
    go_ret2
    rw [HE.out]
    exact lset_one w _ rb b es.length N W6.heap.size true _ rfl HB6.out HF6.out HROW.out (by simp) HNL.out.symm hb (by have := HN.out; omega)
  · have h33 : N = 33 := by have := HN.out; omega
    subst h33
    go_wp2_with fail
    go_ret2
    rw [HE.out]
    exact lset_two w _ rb b es.length W6.heap.size true _ rfl HB6.out HF6.out HROW.out HNL.out (by have := HN.out; omega)
end Go.Proofs.Ytefigjdebakccaa
