/- The walk over a branch: set (as a copy). -/
import Derived.Test.YtefigjdebakccaaRow
namespace Go.Proofs.Ytefigjdebakccaa
open Go.RowKit

theorem disp_l_set (b : Nat) : Disp 138 (.pointer (some ⟨b, 0, none⟩)) 107 "pub-frond/pub/immutable.set" := ⟨fun w => by kernel_rfl, fun w => by kernel_rfl, fun a w => by kernel_rfl⟩
theorem disp_b_set (b : Nat) : Disp 147 (.pointer (some ⟨b, 0, none⟩)) 114 "pub-frond/pub/immutable.set" := ⟨fun w => by kernel_rfl, fun w => by kernel_rfl, fun a w => by kernel_rfl⟩
theorem iface_one {v : Value} (h : ∃ ty p : Nat, v = .iface ty (.pointer (some ⟨p, 0, none⟩))) : v.oneCell' = true := by
  obtain ⟨ty, p, rfl⟩ := h
  rfl
theorem krow_one {w : World} {r : Nat} {kids : List Kid} (h : ∀ kd ∈ kids, SN w r kd.1 kd.2) : ∀ e ∈ krow kids, e.2.oneCell' = true := fun e he => by
  unfold krow at he
  obtain ⟨kd, h1, rfl⟩ := List.mem_map.1 he
  exact iface_one (h kd h1).ptr
theorem But.below2 {w W W' : World} {b B : Nat} (h : Below B w W) (hb : But (· = b) W W') (hB : B ≤ b) (hW : B ≤ W.heap.size) : Below B w W' := But.below' h hB hW hb

/-- a branch being made: its block, its row -/
def BS (w w2 : World) (rb : Nat) (fl : Bool) (ob b N : Nat) (row : List Value) (W : World) : Prop :=
  But (· = rb) w W ∧ Flag W rb fl ∧ W.heap[ob]? = some (.cells #[.slice (some ⟨b, 0, none⟩) N N] 165 (0, 0)) ∧ W.heap[b]? = some (.cells row.toArray 163 (0, 0)) ∧ Below w2.heap.size w2 W ∧ w.heap.size ≤ b ∧ w2.heap.size ≤ b ∧ rb ≠ b ∧ ob ≠ b
section
variable {w w2 W W' : World} {rb ob b N : Nat} {fl : Bool} {row row' : List Value}
theorem BS.step (h : BS w w2 rb fl ob b N row W) (hb : But (· = b) W W') (hr : W'.heap[b]? = some (.cells row'.toArray 163 (0, 0))) : BS w w2 rb fl ob b N row' W' := by
  obtain ⟨h1, h2, h3, h4, h5, h6, h7, h8, h9⟩ := h
  exact ⟨But.more h1 h6 hb, (hb.block rb (lt_of_block h2) h8).trans h2, (hb.block ob (lt_of_block h3) h9).trans h3, hr, But.below' h5 h7 h5.size hb, h6, h7, h8, h9⟩
theorem BS.drew (h : BS w w2 rb fl ob b N row W) : BS w w2 rb fl ob b N row W.drew := h.step (But.refl _ _).drew h.2.2.2.1
theorem bs_make {Z : List Value} (h1 : But (· = rb) w W) (h2 : Flag W rb fl) (h3 : W.heap[ob]? = some (.cells #[.slice none 0 0] 165 (0, 0))) (h5 : Below w2.heap.size w2 W) (h6 : w.heap.size ≤ ob) (h7 : w2.heap.size ≤ ob) (h8 : rb < ob) :
    BS w w2 rb fl ob W.heap.size N Z ((W.alloc (.cells Z.toArray 163)).setCell ⟨ob, 0, none⟩ (.slice (some ⟨W.heap.size, 0, none⟩) N N)) := by
  have hlt := lt_of_block h3
  refine ⟨(h1.alloc _).setCell (.inr h6) _, ?_, heap_setCell_same _ _ _ _ _ _ (at_alloc h3), ?_, (h5.alloc h5.size _).setCell h7 _, by omega, by omega, by omega, by omega⟩
  · show ((W.alloc (.cells Z.toArray 163)).setCell ⟨ob, 0, none⟩ _).heap[rb]? = _
    rw [heap_setCell_other _ _ _ _ (by show rb ≠ ob; omega)]
    exact at_alloc h2
  · rw [heap_setCell_other _ _ _ _ (by show W.heap.size ≠ ob; omega)]
    exact heap_alloc_last W _
end
theorem put_one (row : List (Int × Value)) (n : Nat) (h : n < row.length) (y : Int × Value) : row.take n ++ [y] ++ row.drop (n + 1) = row.set n y := by
  rw [List.set_eq_take_append_cons_drop, if_pos h]
  simp

set_option maxRecDepth 100000 in
set_option maxHeartbeats 3200000 in
theorem brSet_one (o : Nat) (cv : Value) (hc : CmpIs o cv) (key val : Int) (nb g q c rb r : Nat) (kids : List Kid) (hK : Kids (ltO o) (ess kids)) (hl : kids.length ≤ 32) (hcap : kids.length ≤ c) (w : World) (old : Bool) (hf : Flag w rb old)
    (h4 : w.heap[nb]? = some (.cells #[.slice (some ⟨g, q, none⟩) kids.length c] 165 (0, 0))) (h5 : ∀ (i : Nat) (e : Int × Value), (krow kids)[i]? = some e → w.cell? ⟨g, q + i * 2, none⟩ = some (.int .i64 e.1) ∧ w.cell? ⟨g, q + i * 2 + 1, none⟩ = some e.2)
    (hg : g ≠ rb) (hkn : ∀ kd ∈ kids, SN w r kd.1 kd.2) (n : Nat) (hn : n = cut (ltO o) 0 (ess kids) key - 1) (kd : Kid) (hkd : kids[n]? = some kd) (ty p fid : Nat) (hv : kd.1 = .iface ty (.pointer (some ⟨p, 0, none⟩)))
    (hd : Disp ty (.pointer (some ⟨p, 0, none⟩)) fid "pub-frond/pub/immutable.set") (fl : Bool) (m : Nat)
    (hcall : ∀ W, Below w.heap.size w W → Calls Try.prog fid #[.pointer (some ⟨p, 0, none⟩), .int .i64 key, .int .i64 val, cv, .bool false, .pointer (some ⟨rb, 0, none⟩)] W (SSet W rb fl r m (ins (ltO o) kd.2 key val))) :
    Calls Try.prog 114 #[.pointer (some ⟨nb, 0, none⟩), .int .i64 key, .int .i64 val, cv, .bool false, .pointer (some ⟨rb, 0, none⟩)] w (SSet w rb fl (r + 1) kids.length (ins (ltO o) (ess kids).flatten key val)) := by
  have hnl : n < kids.length := (List.getElem?_eq_some_iff.1 hkd).1
  have HI : Hid (Calls Try.prog 112 #[.pointer (some ⟨nb, 0, none⟩), .int .i64 key, cv] w fun e w' => e = .returned (.int .i64 (n : Nat)) ∧ Below w.heap.size w w') := by
    have h4' := cell_at (j := 0) h4 rfl
    rw [← ess_len] at h4'
    have := brIdx_w o cv hc key nb g q c (ess kids) hK (by rw [ess_len]; omega) w h4' (fun i e hi => by
      obtain ⟨kd2, hk2⟩ : ∃ kd, kids[i]? = some kd := ⟨_, List.getElem?_eq_getElem (show i < kids.length by rw [← ess_len]; exact (List.getElem?_eq_some_iff.1 hi).1)⟩
      rw [ess_get hk2] at hi
      cases hi
      exact (h5 i _ (krow_get hk2)).1)
    rw [← hn] at this
    exact this
  have hk5 := (h5 n _ (krow_get hkd)).2
  rw [hv] at hk5
  obtain ⟨cty, cvv, cfid, rfl, -, -⟩ := hc
  have HC := Lib.hid hcall
  have H4 := Lib.hid h4
  have H5 := Lib.hid h5
  have HF := Lib.hid hf
  have HNR := Lib.hid hg
  have HNB := Lib.hid (hf.other h4 (by decide))
  have HKD := Lib.hid hkd
  have HK5 := Lib.hid hk5
  have HKN := Lib.hid hkn
  have HKK := Lib.hid hK
  have HCUT := Lib.hid hn
  obtain ⟨d1, d2, d3⟩ := hd
  clear hcall h4 h5 hf hg hkd hk5 hkn hK hn hv
  go_enter Try.func114, Try.ntmps114
  go_wp2_with fail
  refine HI.out.mono ?_
  rintro e w1 ⟨rfl, hb⟩
  have h4 := cell_at (j := 0) (below_at hb H4.out) rfl
  have h5k := bcell hb HK5.out
  have HB := Lib.hid hb
  have hi' : (n : Int) < (kids.length : Int) := by omega
  have hi0 : (0 : Int) ≤ (n : Int) := by omega
  clear HI hb
  go_wp2_with fail
  refine (HC.out w1 HB.out).mono ?_
  rintro e w2 ⟨hbt, hf2, ⟨v1, n1, rfl, hn1, hcnt⟩ | ⟨hm, v1, v2, ea, eb, rfl, hab, hs1, hs2⟩⟩
  · have hs1 := hcnt.sn
    have HF2 := Lib.hid hf2
    have HB2 : Hid (But (· = rb) w w2) := (But.of_below HB.out).trans hbt
    have HS1 := Lib.hid hs1
    obtain ⟨ty1, p1, rfl⟩ := hs1.ptr
    clear hbt hf2 hcnt hs1 hn1 h4 h5k HB HC
    go_upto_region 17 with (fail)
    have HB3 : Hid (But (· = rb) w (w2.alloc (Obj.cells #[Value.slice none 0 0] 165))) := HB2.out.alloc _
    have HF3 : Hid (Flag (w2.alloc (Obj.cells #[Value.slice none 0 0] 165)) rb fl) := at_alloc HF2.out
    have HZ3 : Hid ((w2.alloc (Obj.cells #[Value.slice none 0 0] 165)).heap[w2.heap.size]? = some (.cells #[Value.slice none 0 0] 165 (0, 0))) := heap_alloc_last w2 _
    have HW3 : Hid (Below w2.heap.size w2 (w2.alloc (Obj.cells #[Value.slice none 0 0] 165))) := (Below.refl _ _).alloc (Nat.le_refl _) _
    have HGE := Lib.hid HB2.out.size
    have HRB : Hid (rb < w2.heap.size) := lt_of_block HF2.out
    clear HB2 HF2
    generalize w2.alloc (Obj.cells #[Value.slice none 0 0] 165) = W at HB3 HF3 HZ3 HW3 ⊢
    obtain ⟨ob, hob⟩ : ∃ ob, ob = w2.heap.size := ⟨_, rfl⟩
    rw [← hob] at HZ3 HGE HRB ⊢
    have HOB := Lib.hid hob
    clear hob
    have h4 := cell_at (j := 0) (HB3.out.at H4.out HNB.out) rfl
    have h30 := cell_at (j := 0) HZ3.out rfl
    obtain ⟨Z, hZl, hmk⟩ := make161 W kids.length (by omega)
    have HZL := Lib.hid hZl
    have HZ4 : Hid ((W.alloc (Obj.cells Z.toArray 163)).heap[ob]? = some (.cells #[Value.slice none 0 0] 165 (0, 0))) := at_alloc HZ3.out
    have h31 := cell_at (j := 0) HZ4.out rfl
    have h32 : (W.alloc (Obj.cells Z.toArray 163)).frozen? ⟨ob, 0, none⟩ = false := frozen_of_row _ _ _ _ _ HZ4.out
    clear hZl
    go_upto_region 18 with (fail)
    have hbs := bs_make (N := kids.length) (Z := Z) HB3.out HF3.out HZ3.out HW3.out HGE.out (Nat.le_of_eq HOB.out.symm) HRB.out
    have HBS := Lib.hid hbs
    clear h4 h30 h31 h32 hmk HB3 HF3 HZ3 HZ4 HW3 hbs
    generalize (W.alloc (Obj.cells Z.toArray 163)).setCell ⟨ob, 0, none⟩ (.slice (some ⟨W.heap.size, 0, none⟩) kids.length kids.length) = W3 at HBS ⊢
    generalize W.heap.size = b at HBS ⊢
    clear W
    have h4 := cell_at (j := 0) (HBS.out.1.at H4.out HNB.out) rfl
    have h41 := cell_at (j := 0) HBS.out.2.2.1 rfl
    refine region_tail 6 (by kernel_rfl) (by kernel_rfl) ?_
    simp only [List.take_succ_cons, List.take_zero, List.drop_succ_cons, List.drop_zero]
    repeat still_step
    refine wpStill_nil ?_
    have HSRC : Hid (∀ W, But (· = rb) w W → ∀ j v, (rcells (krow kids))[j]? = some v → W.cell? ((⟨g, q, none⟩ : Addr).add j) = some v) := fun W hW => src_rows fun i y hy => by
      have hgs : g < w.heap.size := World.block_lt_of_cell? w _ (H5.out i y hy).1
      have h6 := hW.block g hgs HNR.out
      exact ⟨by rw [World.cell?, h6]; exact (H5.out i y hy).1, by rw [World.cell?, h6]; exact (H5.out i y hy).2⟩
    refine wpList_copy_kk rfl (.tmp 138) (.tmp 142) 161 161 rfl 163 2 Try.underlying161 size163 (some ⟨b, 0, none⟩) (some ⟨g, q, none⟩) kids.length kids.length kids.length c rfl rfl b 0 Z 163 HBS.out.drew.2.2.2.1 (rcells (krow kids)) kids.length (Nat.min_self _).symm (by rw [rcells_len, krow_len]) (fun _ => ⟨rfl, _, rfl, HSRC.out _ HBS.out.drew.1⟩) (by rw [rcells_len, krow_len]; have := HZL.out; omega) (rcells_one (krow_one HKN.out)) ?_
    intro W4 hg4 hb4
    have hrow := hg4.out
    rw [splice_all (by rw [rcells_len, krow_len]; have := HZL.out; omega), List.drop_of_length_le (by rw [rcells_len, krow_len]; have := HZL.out; omega), List.append_nil] at hrow
    have HBS4 := Lib.hid (HBS.out.drew.step hb4.out hrow)
    clear hrow hg4 hb4 HBS h4 h41 HSRC
    clear W3
    go_upto_region 19 with (fail)
    obtain ⟨hg0', hg1'⟩ := rcells_at (krow_get HKD.out)
    have HG : Hid (W4.cell? ⟨b, n * 2, none⟩ = some (.int .i64 (hd 0 kd.2)) ∧ W4.cell? ⟨b, n * 2 + 1, none⟩ = some kd.1) := ⟨cell_at HBS4.out.2.2.2.1 (by rw [List.getElem?_toArray]; exact hg0'), cell_at HBS4.out.2.2.2.1 (by rw [List.getElem?_toArray]; exact hg1')⟩
    have HS4 := Lib.hid (HS1.out.stay (Stay.of_below HBS4.out.drew.2.2.2.2.1))
    obtain ⟨ty2, p2, fid2, e1, ⟨k1, k2, k3⟩, e3⟩ := min_any HS4.out
    simp only [Value.iface.injEq, Value.pointer.injEq, Option.some.injEq, Addr.mk.injEq, and_true] at e1
    obtain ⟨rfl, rfl⟩ := e1
    have HMIN := Lib.hid e3
    clear hg0' hg1' e3
    have HR0 : Hid (But (· = b) W4 W4.drew) := (But.refl _ _).drew
    have HNE : Hid (ob ≠ b) := HBS4.out.2.2.2.2.2.2.2.2
    refine region_segsR (fun W => But (· = b) W4 W) [([0, 1, 2, 3, 5], [4]), ([6, 7], [8])] (by kernel_rfl) (by intro dst v c a w h; cases dst <;> exact h) (by kernel_rfl) HR0.out ?_
    refine r_segs ?_
    simp only [opsOf, List.getElem?_toArray, List.getElem?_cons_succ, List.getElem?_cons_zero]
    repeat (refine r_read ?_ (by kernel_rfl) ?_ (fun K hK => ?_); rotate_left 1; (intro W hR; have x0 := cell_at (j := 0) (hR.at HBS4.out.2.2.1 HNE.out) rfl; clear hR; go_simp; try with_reducible rfl); go_simp; refine hK _ ?_; clear hK K)
    refine r_nil1 ?_
    refine r_op rfl (fun K hK => ?_)
    go_simp
    refine HMIN.out.mono ?_
    rintro e w' ⟨rfl, rfl⟩
    refine hK _ _ HR0.out ?_
    clear hK K
    refine r_segs ?_
    simp only [opsOf, List.getElem?_toArray, List.getElem?_cons_succ, List.getElem?_cons_zero]
    repeat (refine r_read ?_ (by kernel_rfl) ?_ (fun K hK => ?_); rotate_left 1; (intro W hR; clear hR; go_simp; try with_reducible rfl); go_simp; refine hK _ ?_; clear hK K)
    refine r_nil1 ?_
    refine r_op rfl (fun K hK => ?_)
    obtain ⟨c0, c1⟩ := HG.out
    have f0 : W4.frozen? ⟨b, n * 2, none⟩ = false := frozen_of_row _ _ _ _ _ HBS4.out.2.2.2.1
    have f1 : W4.frozen? ⟨b, n * 2 + 1, none⟩ = false := frozen_of_row _ _ _ _ _ HBS4.out.2.2.2.1
    go_simp
    have HB5 : Hid (But (fun x => x = b) W4 ((W4.setCell ⟨b, n * 2, none⟩ (.int .i64 (hd 0 (ins (ltO o) kd.2 key val)))).setCell ⟨b, n * 2 + 1, none⟩ (.iface ty1 (.pointer (some ⟨p1, 0, none⟩)))).drew) := by
      have h1 : But (fun x => x = b) W4 _ := (But.refl (fun x => x = b) W4).setCell (p := ⟨b, n * 2, none⟩) (.inl rfl) (.int .i64 (hd 0 (ins (ltO o) kd.2 key val)))
      have h2 := h1.setCell (p := ⟨b, n * 2 + 1, none⟩) (.inl rfl) (.iface ty1 (.pointer (some ⟨p1, 0, none⟩)))
      exact h2.drew
    refine hK _ _ HB5.out ?_
    clear hK K c0 c1 f0 f1 k1 k2 k3
    refine r_end ?_
    have HBS5 := Lib.hid (HBS4.out.step (row' := rcells ((krow kids).set n (hd 0 (ins (ltO o) kd.2 key val), .iface ty1 (.pointer (some ⟨p1, 0, none⟩))))) HB5.out (by
      rw [← rcells_set]
      exact heap_setCell_same _ _ _ _ _ _ (heap_setCell_same _ _ _ _ _ _ HBS4.out.2.2.2.1)))
    clear HB5 HBS4 HG HR0 HMIN HS4
    generalize ((W4.setCell ⟨b, n * 2, none⟩ (.int .i64 (hd 0 (ins (ltO o) kd.2 key val)))).setCell ⟨b, n * 2 + 1, none⟩ (.iface ty1 (.pointer (some ⟨p1, 0, none⟩)))).drew = W5 at HBS5 ⊢
    clear W4
    have x0 := cell_at (j := 0) HBS5.out.2.2.1 rfl
    have h32 : decide ((32 : Int) < (kids.length : Int)) = false := by simp; omega
    have h32' : ¬ 32 < kids.length := by omega
    go_wp2_with fail
    go_ret2
    obtain ⟨q1, q2⟩ := put_ins (ord_ltO o) HKK.out (d := 0) (k := key) (v := val) (b := kd.2) (bs := [ins (ltO o) kd.2 key val]) (by rw [← HCUT.out]; exact ess_get HKD.out) (by simp) (fun es he => by simp only [List.mem_singleton] at he; rw [he]; exact ins_ne _ _ _)
    rw [← HCUT.out] at q1 q2
    have hst : Stay w W5 := HBS5.out.1.stay HF.out
    refine bset_one w W5 rb b ob kids.length r kids.length fl (putK kids n [(.iface ty1 (.pointer (some ⟨p1, 0, none⟩)), ins (ltO o) kd.2 key val)]) _ HBS5.out.1 HBS5.out.2.1 HBS5.out.2.2.1 ?_ ?_ ?_ ?_ ?_ hl (by omega)
    · rw [krow_put]
      have := HBS5.out.2.2.2.1
      rw [← put_one _ _ (by rw [krow_len]; exact hnl)] at this
      exact this
    · intro kd2 hkd2
      rcases mem_putK hkd2 with h | h
      · exact (HKN.out kd2 h).stay hst
      · simp only [List.mem_singleton] at h
        subst h
        exact HS1.out.stay (Stay.of_below HBS5.out.2.2.2.2.1)
    · rw [ess_put, ← q2]
      rfl
    · intro e
      have := congrArg List.length e
      rw [len_putK hnl] at this
      simp only [List.length_cons, List.length_nil] at this
      omega
    · rw [len_putK hnl]
      simp only [List.length_cons, List.length_nil]
      omega
  · have HF2 := Lib.hid hf2
    have HB2 : Hid (But (· = rb) w w2) := (But.of_below HB.out).trans hbt
    have HS1 := Lib.hid hs1
    have HS2 := Lib.hid hs2
    have HAB := Lib.hid hab
    obtain ⟨ty1, p1, rfl⟩ := hs1.ptr
    obtain ⟨ty2, p2, rfl⟩ := hs2.ptr
    clear hbt hf2 hs1 hs2 hab hm h4 h5k HB HC
    go_upto_region 20 with (fail)
    have HB3 : Hid (But (· = rb) w (w2.alloc (Obj.cells #[Value.slice none 0 0] 165))) := HB2.out.alloc _
    have HF3 : Hid (Flag (w2.alloc (Obj.cells #[Value.slice none 0 0] 165)) rb fl) := at_alloc HF2.out
    have HZ3 : Hid ((w2.alloc (Obj.cells #[Value.slice none 0 0] 165)).heap[w2.heap.size]? = some (.cells #[Value.slice none 0 0] 165 (0, 0))) := heap_alloc_last w2 _
    have HW3 : Hid (Below w2.heap.size w2 (w2.alloc (Obj.cells #[Value.slice none 0 0] 165))) := (Below.refl _ _).alloc (Nat.le_refl _) _
    have HGE := Lib.hid HB2.out.size
    have HRB : Hid (rb < w2.heap.size) := lt_of_block HF2.out
    clear HB2 HF2
    generalize w2.alloc (Obj.cells #[Value.slice none 0 0] 165) = W at HB3 HF3 HZ3 HW3 ⊢
    obtain ⟨ob, hob⟩ : ∃ ob, ob = w2.heap.size := ⟨_, rfl⟩
    rw [← hob] at HZ3 HGE HRB ⊢
    have HOB := Lib.hid hob
    clear hob
    obtain ⟨N, hN⟩ : ∃ N, N = kids.length + 1 := ⟨_, rfl⟩
    have hwN : IntKind.i64.wrap ((kids.length : Int) + 1) = (N : Int) := by rw [IntKind.wrap_i64]; omega
    have hwN' : (kids.length : Int) + 1 = (N : Int) := by omega
    have h4 := cell_at (j := 0) (HB3.out.at H4.out HNB.out) rfl
    have h30 := cell_at (j := 0) HZ3.out rfl
    obtain ⟨Z, hZl, hmk⟩ := make161 W N (by omega)
    have HZL := Lib.hid hZl
    have HZ4 : Hid ((W.alloc (Obj.cells Z.toArray 163)).heap[ob]? = some (.cells #[Value.slice none 0 0] 165 (0, 0))) := at_alloc HZ3.out
    have h31 := cell_at (j := 0) HZ4.out rfl
    have h32 : (W.alloc (Obj.cells Z.toArray 163)).frozen? ⟨ob, 0, none⟩ = false := frozen_of_row _ _ _ _ _ HZ4.out
    have HN := Lib.hid hN
    clear hZl hN
    go_upto_region 21 with (fail)
    have hbs := bs_make (N := N) (Z := Z) HB3.out HF3.out HZ3.out HW3.out HGE.out (Nat.le_of_eq HOB.out.symm) HRB.out
    have HBS := Lib.hid hbs
    clear h4 h30 h31 h32 hmk HB3 HF3 HZ3 HZ4 HW3 hbs hwN hwN'
    generalize (W.alloc (Obj.cells Z.toArray 163)).setCell ⟨ob, 0, none⟩ (.slice (some ⟨W.heap.size, 0, none⟩) N N) = W3 at HBS ⊢
    generalize W.heap.size = b at HBS ⊢
    clear W
    have h4 := cell_at (j := 0) (HBS.out.1.at H4.out HNB.out) rfl
    have h41 := cell_at (j := 0) HBS.out.2.2.1 rfl
    have hnN : n ≤ N := by have := HN.out; omega
    have hnc : n ≤ c := by omega
    have HSRC : Hid (∀ W, But (· = rb) w W → ∀ j v, (rcells (krow kids))[j]? = some v → W.cell? ((⟨g, q, none⟩ : Addr).add j) = some v) := fun W hW => src_rows fun i y hy => by
      have hgs : g < w.heap.size := World.block_lt_of_cell? w _ (H5.out i y hy).1
      have h6 := hW.block g hgs HNR.out
      exact ⟨by rw [World.cell?, h6]; exact (H5.out i y hy).1, by rw [World.cell?, h6]; exact (H5.out i y hy).2⟩
    refine region_tail 10 (by kernel_rfl) (by kernel_rfl) ?_
    simp only [List.take_succ_cons, List.take_zero, List.drop_succ_cons, List.drop_zero]
    repeat still_step
    refine wpStill_nil ?_
    obtain ⟨row, hrow⟩ : ∃ row, row = krow kids := ⟨_, rfl⟩
    have hrl : row.length = kids.length := by rw [hrow, krow_len]
    have HRO := Lib.hid hrow
    have HRL := Lib.hid hrl
    have HONE : Hid (∀ e ∈ row, e.2.oneCell' = true) := by show ∀ e ∈ row, _; rw [hrow]; exact krow_one HKN.out
    rw [← hrow] at HSRC
    clear hrow hrl
    obtain ⟨c1, hcc1⟩ : ∃ c1, c1 = rcells (row.take n) := ⟨_, rfl⟩
    obtain ⟨c2, hcc2⟩ : ∃ c2, c2 = rcells (row.drop n) := ⟨_, rfl⟩
    have hl1 : c1.length = n * 2 := by rw [hcc1, rcells_len, List.length_take, Nat.min_eq_left (by rw [HRL.out]; omega)]
    have hl2 : c2.length = (kids.length - n) * 2 := by rw [hcc2, rcells_len, List.length_drop, HRL.out]
    have HC := Lib.hid (And.intro hcc1 hcc2)
    have HC1 := Lib.hid hl1
    have HC2 := Lib.hid hl2
    clear hcc1 hcc2 hl1 hl2
    refine wpList_copy_kk rfl (.tmp 163) (.tmp 169) 161 161 rfl 163 2 Try.underlying161 size163 (some ⟨b, 0, none⟩) (some ⟨g, q, none⟩) n N n c rfl rfl b 0 Z 163 HBS.out.drew.2.2.2.1 c1 n (Nat.min_self _).symm HC1.out (fun _ => ⟨rfl, _, rfl, fun j v hj => HSRC.out _ HBS.out.drew.1 j v ?_⟩) (by rw [HC1.out, HZL.out]; omega) (by rw [HC.out.1]; exact rcells_one fun e he => HONE.out e (List.mem_of_mem_take he)) ?_
    · rw [rcells_take row n, ← HC.out.1, List.getElem?_append_left (List.getElem?_eq_some_iff.1 hj).1]
      exact hj
    intro W4 hg4 hb4
    have hrow := hg4.out
    rw [splice_all (by rw [HC1.out, HZL.out]; omega)] at hrow
    obtain ⟨z0, z1, Z2, hz⟩ : ∃ z0 z1 Z2, Z.drop c1.length = z0 :: z1 :: Z2 := by
      have hl : 2 ≤ (Z.drop c1.length).length := by rw [List.length_drop, HC1.out, HZL.out]; have := HN.out; omega
      match h : Z.drop c1.length, hl with
      | z0 :: z1 :: Z2, _ => exact ⟨z0, z1, Z2, rfl⟩
    rw [hz] at hrow
    have hz2l : Z2.length = c2.length := by
      have := congrArg List.length hz
      rw [List.length_drop, HC1.out, HZL.out] at this
      rw [HC2.out]
      simp only [List.length_cons] at this
      have := HN.out
      omega
    have HBS4 := Lib.hid (HBS.out.drew.step hb4.out hrow)
    have HZ2 := Lib.hid hz2l
    clear hrow hz hz2l hg4 hb4 HBS h4 h41 HZL
    clear W3
    go_upto_region 22 with (fail)
    have h4 := cell_at (j := 0) (HBS4.out.1.at H4.out HNB.out) rfl
    have h41 := cell_at (j := 0) HBS4.out.2.2.1 rfl
    have hw1 : IntKind.i64.wrap ((n : Int) + 1) = (n : Int) + 1 := by rw [IntKind.wrap_i64]; omega
    obtain ⟨e1, he1, hsl1⟩ := slice161_l b 0 N N (n + 1) (by have := HN.out; omega) (Nat.le_refl _)
    obtain ⟨e2, he2, hsl2⟩ := slice161_l g q kids.length c n (by omega) hcap
    have hsl1 : ∀ w : World, (Instr.slice 161 (.slice (some ⟨b, 0, none⟩) N N) (some (.int .i64 ((n : Int) + 1))) none none).run Try.prog w = .ok (.slice (some e1) (N - (n + 1)) (N - (n + 1))) w := hsl1
    have HD := Lib.hid (And.intro he1 he2)
    clear he1 he2
    refine region_tail 11 (by kernel_rfl) (by kernel_rfl) ?_
    simp only [List.take_succ_cons, List.take_zero, List.drop_succ_cons, List.drop_zero]
    repeat still_step
    refine wpStill_nil ?_
    refine wpList_copy_kk rfl (.tmp 175) (.tmp 181) 161 161 rfl 163 2 Try.underlying161 size163 (some e1) (some e2) (N - (n + 1)) (N - (n + 1)) (kids.length - n) (c - n) rfl rfl b (n * 2 + 2) (c1 ++ z0 :: z1 :: Z2) 163 HBS4.out.drew.2.2.2.1 c2 (kids.length - n) (by show _ = min _ _; have := HN.out; omega) HC2.out (fun h9 => ⟨by rw [HD.out.1 (by have := HN.out; omega), Nat.zero_add, show (n + 1) * 2 = n * 2 + 2 by omega], e2, rfl, fun j v hj => ?_⟩)
      (by rw [List.length_append, List.length_cons, List.length_cons, HC1.out, HZ2.out]; omega) (by rw [HC.out.2]; exact rcells_one fun e he => HONE.out e (List.mem_of_mem_drop he)) ?_
    · have h7 := HSRC.out _ HBS4.out.drew.1 (n * 2 + j) v (by rw [rcells_take row n, ← HC.out.1, ← HC.out.2, List.getElem?_append_right (by rw [HC1.out]; omega), HC1.out, show n * 2 + j - n * 2 = j by omega]; exact hj)
      rw [addr_add] at h7
      rw [HD.out.2 (by omega), addr_add, Nat.add_assoc]
      exact h7
    intro W5 hg5 hb5
    have hrow := hg5.out
    rw [row_rear HC1.out HZ2.out] at hrow
    obtain ⟨u0, u1, hu⟩ : ∃ u0 u1, c2 = u0 :: u1 :: rcells (row.drop (n + 1)) := by
      have hlr : n < row.length := by rw [HRL.out]; omega
      rw [HC.out.2, List.drop_eq_getElem_cons hlr, rcells_cons]
      exact ⟨_, _, rfl⟩
    rw [hu] at hrow
    have HBS5 := Lib.hid (HBS4.out.drew.step hb5.out hrow)
    clear hrow hu hg5 hb5 HBS4 h4 h41 hsl1 hsl2 HD HSRC hw1 HZ2 HC2
    clear W4
    go_upto_region 23 with (fail)
    have hnN1 : (n : Int) < (N : Int) := by have := HN.out; omega
    have hnN2 : (n : Int) + 1 < (N : Int) := by have := HN.out; omega
    have hw1 : IntKind.i64.wrap ((n : Int) + 1) = (n : Int) + 1 := by rw [IntKind.wrap_i64]; omega
    have HNE : Hid (ob ≠ b) := HBS5.out.2.2.2.2.2.2.2.2
    have c0 := cell_at (j := n * 2) HBS5.out.2.2.2.1 (by rw [List.getElem?_toArray, List.getElem?_append_right (by rw [HC1.out]; omega), HC1.out, Nat.sub_self]; rfl)
    have c1' := cell_at (j := n * 2 + 1) HBS5.out.2.2.2.1 (by rw [List.getElem?_toArray, List.getElem?_append_right (by rw [HC1.out]; omega), HC1.out, show n * 2 + 1 - n * 2 = 1 by omega]; rfl)
    have HG := Lib.hid (And.intro c0 c1')
    clear c0 c1'
    have HS4 := Lib.hid (HS1.out.stay (Stay.of_below HBS5.out.drew.2.2.2.2.1))
    obtain ⟨ty3, p3, fid2, e1', ⟨k1, k2, k3⟩, e3⟩ := min_any HS4.out
    simp only [Value.iface.injEq, Value.pointer.injEq, Option.some.injEq, Addr.mk.injEq, and_true] at e1'
    obtain ⟨rfl, rfl⟩ := e1'
    have HMIN := Lib.hid e3
    clear e3
    have HR0 : Hid (But (· = b) W5 W5.drew) := (But.refl _ _).drew
    refine region_segsR (fun W => But (· = b) W5 W) [([0, 1, 2, 3, 5], [4]), ([6, 7], [8])] (by kernel_rfl) (by intro dst v c a w h; cases dst <;> exact h) (by kernel_rfl) HR0.out ?_
    refine r_segs ?_
    simp only [opsOf, List.getElem?_toArray, List.getElem?_cons_succ, List.getElem?_cons_zero]
    repeat (refine r_read ?_ (by kernel_rfl) ?_ (fun K hK => ?_); rotate_left 1; (intro W hR; have x0 := cell_at (j := 0) (hR.at HBS5.out.2.2.1 HNE.out) rfl; clear hR; go_simp; try with_reducible rfl); go_simp; refine hK _ ?_; clear hK K)
    refine r_nil1 ?_
    refine r_op rfl (fun K hK => ?_)
    go_simp
    refine HMIN.out.mono ?_
    rintro e w' ⟨rfl, rfl⟩
    refine hK _ _ HR0.out ?_
    clear hK K
    refine r_segs ?_
    simp only [opsOf, List.getElem?_toArray, List.getElem?_cons_succ, List.getElem?_cons_zero]
    repeat (refine r_read ?_ (by kernel_rfl) ?_ (fun K hK => ?_); rotate_left 1; (intro W hR; clear hR; go_simp; try with_reducible rfl); go_simp; refine hK _ ?_; clear hK K)
    refine r_nil1 ?_
    refine r_op rfl (fun K hK => ?_)
    obtain ⟨c0, c1'⟩ := HG.out
    have f0 : W5.frozen? ⟨b, n * 2, none⟩ = false := frozen_of_row _ _ _ _ _ HBS5.out.2.2.2.1
    have f1 : W5.frozen? ⟨b, n * 2 + 1, none⟩ = false := frozen_of_row _ _ _ _ _ HBS5.out.2.2.2.1
    go_simp
    have HB5 : Hid (But (fun x => x = b) W5 ((W5.setCell ⟨b, n * 2, none⟩ (.int .i64 (hd 0 ea))).setCell ⟨b, n * 2 + 1, none⟩ (.iface ty1 (.pointer (some ⟨p1, 0, none⟩)))).drew) := by
      have h1 : But (fun x => x = b) W5 _ := (But.refl (fun x => x = b) W5).setCell (p := ⟨b, n * 2, none⟩) (.inl rfl) (.int .i64 (hd 0 ea))
      have h2 := h1.setCell (p := ⟨b, n * 2 + 1, none⟩) (.inl rfl) (.iface ty1 (.pointer (some ⟨p1, 0, none⟩)))
      exact h2.drew
    refine hK _ _ HB5.out ?_
    clear hK K c0 c1' f0 f1 k1 k2 k3
    refine r_end ?_
    have HBS6 := Lib.hid (HBS5.out.step (row' := c1 ++ .int .i64 (hd 0 ea) :: .iface ty1 (.pointer (some ⟨p1, 0, none⟩)) :: u0 :: u1 :: rcells (row.drop (n + 1))) HB5.out (by
      rw [← row_mid (z0 := z0) (z1 := z1) HC1.out]
      exact heap_setCell_same _ _ _ _ _ _ (heap_setCell_same _ _ _ _ _ _ HBS5.out.2.2.2.1)))
    clear HB5 HBS5 HG HR0 HMIN HS4
    generalize ((W5.setCell ⟨b, n * 2, none⟩ (.int .i64 (hd 0 ea))).setCell ⟨b, n * 2 + 1, none⟩ (.iface ty1 (.pointer (some ⟨p1, 0, none⟩)))).drew = W6 at HBS6 ⊢
    clear W5
    obtain ⟨n1, hn1⟩ : ∃ n1, n1 = n + 1 := ⟨_, rfl⟩
    have HN1 := Lib.hid hn1
    clear hw1 hnN2
    have hwa : IntKind.i64.wrap ((n : Int) + 1) = (n1 : Int) := by rw [IntKind.wrap_i64]; omega
    have hwb : (n : Int) + 1 = (n1 : Int) := by omega
    have hwc : IntKind.i64.wrap (n1 : Int) = (n1 : Int) := by rw [IntKind.wrap_i64]; omega
    have hnN2 : (n1 : Int) < (N : Int) := by have := HN.out; omega
    have hn1N : n1 < N := by have := HN.out; omega
    clear hn1
    go_upto_region 24 with (fail)
    have c0 := cell_at (j := n1 * 2) HBS6.out.2.2.2.1 (by rw [HN1.out, show (n + 1) * 2 = n * 2 + 2 by omega, List.getElem?_toArray, List.getElem?_append_right (by rw [HC1.out]; omega), HC1.out, show n * 2 + 2 - n * 2 = 2 by omega]; rfl)
    have c1' := cell_at (j := n1 * 2 + 1) HBS6.out.2.2.2.1 (by rw [HN1.out, show (n + 1) * 2 + 1 = n * 2 + 2 + 1 by omega, List.getElem?_toArray, List.getElem?_append_right (by rw [HC1.out]; omega), HC1.out, show n * 2 + 2 + 1 - n * 2 = 3 by omega]; rfl)
    have HG := Lib.hid (And.intro c0 c1')
    clear c0 c1'
    have HS4 := Lib.hid (HS2.out.stay (Stay.of_below HBS6.out.drew.2.2.2.2.1))
    obtain ⟨ty3, p3, fid2, e1', ⟨k1, k2, k3⟩, e3⟩ := min_any HS4.out
    simp only [Value.iface.injEq, Value.pointer.injEq, Option.some.injEq, Addr.mk.injEq, and_true] at e1'
    obtain ⟨rfl, rfl⟩ := e1'
    have HMIN := Lib.hid e3
    clear e3
    have HR0 : Hid (But (· = b) W6 W6.drew) := (But.refl _ _).drew
    refine region_segsR (fun W => But (· = b) W6 W) [([0, 1, 2, 3, 4, 6], [5]), ([7, 8], [9])] (by kernel_rfl) (by intro dst v c a w h; cases dst <;> exact h) (by kernel_rfl) HR0.out ?_
    refine r_segs ?_
    simp only [opsOf, List.getElem?_toArray, List.getElem?_cons_succ, List.getElem?_cons_zero]
    repeat (refine r_read ?_ (by kernel_rfl) ?_ (fun K hK => ?_); rotate_left 1; (intro W hR; have x0 := cell_at (j := 0) (hR.at HBS6.out.2.2.1 HNE.out) rfl; clear hR; go_simp; try with_reducible rfl); go_simp; refine hK _ ?_; clear hK K)
    refine r_nil1 ?_
    refine r_op rfl (fun K hK => ?_)
    go_simp
    refine HMIN.out.mono ?_
    rintro e w' ⟨rfl, rfl⟩
    refine hK _ _ HR0.out ?_
    clear hK K
    refine r_segs ?_
    simp only [opsOf, List.getElem?_toArray, List.getElem?_cons_succ, List.getElem?_cons_zero]
    repeat (refine r_read ?_ (by kernel_rfl) ?_ (fun K hK => ?_); rotate_left 1; (intro W hR; clear hR; go_simp; try with_reducible rfl); go_simp; refine hK _ ?_; clear hK K)
    refine r_nil1 ?_
    refine r_op rfl (fun K hK => ?_)
    obtain ⟨c0, c1'⟩ := HG.out
    have f0 : W6.frozen? ⟨b, n1 * 2, none⟩ = false := frozen_of_row _ _ _ _ _ HBS6.out.2.2.2.1
    have f1 : W6.frozen? ⟨b, n1 * 2 + 1, none⟩ = false := frozen_of_row _ _ _ _ _ HBS6.out.2.2.2.1
    go_simp
    have HB5 : Hid (But (fun x => x = b) W6 ((W6.setCell ⟨b, n1 * 2, none⟩ (.int .i64 (hd 0 eb))).setCell ⟨b, n1 * 2 + 1, none⟩ (.iface ty2 (.pointer (some ⟨p2, 0, none⟩)))).drew) := by
      have h1 : But (fun x => x = b) W6 _ := (But.refl (fun x => x = b) W6).setCell (p := ⟨b, n1 * 2, none⟩) (.inl rfl) (.int .i64 (hd 0 eb))
      have h2 := h1.setCell (p := ⟨b, n1 * 2 + 1, none⟩) (.inl rfl) (.iface ty2 (.pointer (some ⟨p2, 0, none⟩)))
      exact h2.drew
    refine hK _ _ HB5.out ?_
    clear hK K c0 c1' f0 f1 k1 k2 k3
    refine r_end ?_
    have HBS7 := Lib.hid (HBS6.out.step (row' := c1 ++ .int .i64 (hd 0 ea) :: .iface ty1 (.pointer (some ⟨p1, 0, none⟩)) :: .int .i64 (hd 0 eb) :: .iface ty2 (.pointer (some ⟨p2, 0, none⟩)) :: rcells (row.drop (n + 1))) HB5.out (by
      have e0 : c1 ++ .int .i64 (hd 0 ea) :: .iface ty1 (.pointer (some ⟨p1, 0, none⟩)) :: .int .i64 (hd 0 eb) :: .iface ty2 (.pointer (some ⟨p2, 0, none⟩)) :: rcells (row.drop (n + 1)) = (c1 ++ [.int .i64 (hd 0 ea), .iface ty1 (.pointer (some ⟨p1, 0, none⟩))]) ++ .int .i64 (hd 0 eb) :: .iface ty2 (.pointer (some ⟨p2, 0, none⟩)) :: rcells (row.drop (n + 1)) := by simp
      rw [e0, ← row_mid (z0 := u0) (z1 := u1) (n := n1 * 2) (by rw [List.length_append, HC1.out, HN1.out]; simp only [List.length_cons, List.length_nil]; omega)]
      have e1 : c1 ++ .int .i64 (hd 0 ea) :: .iface ty1 (.pointer (some ⟨p1, 0, none⟩)) :: u0 :: u1 :: rcells (row.drop (n + 1)) = (c1 ++ [.int .i64 (hd 0 ea), .iface ty1 (.pointer (some ⟨p1, 0, none⟩))]) ++ u0 :: u1 :: rcells (row.drop (n + 1)) := by simp
      have h9 := HBS6.out.2.2.2.1
      rw [e1] at h9
      exact heap_setCell_same _ _ _ _ _ _ (heap_setCell_same _ _ _ _ _ _ h9)))
    clear HB5 HBS6 HG HR0 HMIN HS4
    generalize ((W6.setCell ⟨b, n1 * 2, none⟩ (.int .i64 (hd 0 eb))).setCell ⟨b, n1 * 2 + 1, none⟩ (.iface ty2 (.pointer (some ⟨p2, 0, none⟩)))).drew = W7 at HBS7 ⊢
    clear W6
    have x0 := cell_at (j := 0) HBS7.out.2.2.1 rfl
    -- the new children
    obtain ⟨nk, hnk⟩ : ∃ nk : List Kid, nk = putK kids n [(.iface ty1 (.pointer (some ⟨p1, 0, none⟩)), ea), (.iface ty2 (.pointer (some ⟨p2, 0, none⟩)), eb)] := ⟨_, rfl⟩
    have HNK := Lib.hid hnk
    have HNL : Hid (nk.length = N) := by
      show nk.length = N
      rw [hnk, len_putK hnl]
      have := HN.out
      simp only [List.length_cons, List.length_nil]
      omega
    have HROW : Hid (W7.heap[b]? = some (.cells (rcells (krow nk)).toArray 163 (0, 0))) := by
      show W7.heap[b]? = _
      rw [hnk, krow_put, rcells_append, rcells_append, ← HRO.out, ← HC.out.1, List.append_assoc]
      exact HBS7.out.2.2.2.1
    have hst : Stay w W7 := HBS7.out.1.stay HF.out
    have HKS : Hid (∀ kd ∈ nk, SN W7 r kd.1 kd.2) := fun kd2 hkd2 => by
      rw [hnk] at hkd2
      rcases mem_putK hkd2 with h | h
      · exact (HKN.out kd2 h).stay hst
      · simp only [List.mem_cons, List.not_mem_nil, or_false] at h
        rcases h with rfl | rfl
        · exact HS1.out.stay (Stay.of_below HBS7.out.2.2.2.2.1)
        · exact HS2.out.stay (Stay.of_below HBS7.out.2.2.2.2.1)
    have HEQ : Hid (ins (ltO o) (ess kids).flatten key val = (ess nk).flatten) := by
      obtain ⟨q1, q2⟩ := put_ins (ord_ltO o) HKK.out (d := 0) (k := key) (v := val) (b := kd.2) (bs := [ea, eb]) (by rw [← HCUT.out]; exact ess_get HKD.out) (by rw [HAB.out]; simp) (fun es he => by
        simp only [List.mem_cons, List.not_mem_nil, or_false] at he
        rcases he with rfl | rfl
        · exact HS1.out.ne
        · exact HS2.out.ne)
      show _ = _
      rw [hnk, ess_put, ← q2, ← HCUT.out]
      rfl
    clear hst hnk hwa hwb hwc
    by_cases hb : N ≤ 32
    · have h32 : decide ((32 : Int) < (N : Int)) = false := by simp; omega
      have h32' : ¬ 32 < N := by omega
      go_wp2_with fail
      go_ret2
      exact bset_one w W7 rb b ob kids.length r N fl nk _ HBS7.out.1 HBS7.out.2.1 HBS7.out.2.2.1 HROW.out HKS.out HEQ.out (fun e => by have := HNL.out; rw [e] at this; simp only [List.length_nil] at this; omega) HNL.out.symm hb (by have := HN.out; omega)
    · have h33 : N = 33 := by have := HN.out; omega
      subst h33
      have x1 := cell_at (j := 0) (at_alloc (o := .cells #[.slice (some ⟨b, 0, none⟩) 16 16] 165) HBS7.out.2.2.1) rfl
      go_wp2_with fail
      go_ret2
      exact bset_two w W7 rb b kids.length r W7.heap.size fl nk _ rfl HBS7.out.1 HBS7.out.2.1 HROW.out HKS.out HEQ.out HNL.out (by have := HN.out; omega)
end Go.Proofs.Ytefigjdebakccaa
