/- set of a sorted map (as a copy). -/
import Derived.Test.YtefigjdebakccaaSMap
namespace Go.Proofs.Ytefigjdebakccaa
open Go.RowKit

theorem ins_len {lt : Int → Int → Bool} (o : Ord lt) {es : List (Int × Int)} (hs : Srt lt es) (k v : Int) : (ins lt es k v).length = es.length + if (look lt es k).isNone then 1 else 0 := by
  cases h : look lt es k with
  | none =>
    have h2 := at_le (lt := lt) es k
    rw [ins_new o hs v h, List.length_append, List.length_cons, List.length_take, List.length_drop]
    simp only [Option.isNone_none, if_true]
    omega
  | some x =>
    have h2 := (List.getElem?_eq_some_iff.1 ((at_look o hs k).1 x h).1).1
    rw [ins_old o hs v h, List.length_append, List.length_cons, List.length_take, List.length_drop]
    simp only [Option.isNone_some, Bool.false_eq_true, if_false]
    omega
theorem del_len {lt : Int → Int → Bool} (o : Ord lt) {es : List (Int × Int)} (hs : Srt lt es) (k : Int) : (del lt es k).length = es.length - if (look lt es k).isSome then 1 else 0 := by
  cases h : look lt es k with
  | none =>
    rw [del_new o hs h]
    simp
  | some x =>
    have h2 := (List.getElem?_eq_some_iff.1 ((at_look o hs k).1 x h).1).1
    rw [del_old o hs h, List.length_append, List.length_take, List.length_drop]
    simp only [Option.isSome_some, if_true]
    omega
theorem ins_nil {lt : Int → Int → Bool} (k v : Int) : ins lt [] k v = [(k, v)] := rfl
/-- the head of a map being made -/
def HS (w : World) (b' : Nat) (x y z : Value) (W : World) : Prop := Below w.heap.size w W ∧ w.heap.size ≤ b' ∧ W.heap[b']? = some (.cells #[x, y, z] 122 (0, 0))
section
variable {w W : World} {b' : Nat} {x y z : Value}
theorem HS.f (h : HS w b' x y z W) (i : Nat) : W.frozen? ⟨b', i, none⟩ = false := frozen_of_row _ _ _ _ _ h.2.2
theorem HS.c0 (h : HS w b' x y z W) : W.cell? ⟨b', 0, none⟩ = some x := cell_at h.2.2 rfl
theorem HS.c1 (h : HS w b' x y z W) : W.cell? ⟨b', 1, none⟩ = some y := cell_at h.2.2 rfl
theorem HS.c2 (h : HS w b' x y z W) : W.cell? ⟨b', 2, none⟩ = some z := cell_at h.2.2 rfl
theorem HS.s0 (h : HS w b' x y z W) (u : Value) : HS w b' u y z (W.setCell ⟨b', 0, none⟩ u) := ⟨h.1.setCell h.2.1 _, h.2.1, heap_setCell_same _ _ _ _ _ _ h.2.2⟩
theorem HS.s1 (h : HS w b' x y z W) (u : Value) : HS w b' x u z (W.setCell ⟨b', 1, none⟩ u) := ⟨h.1.setCell h.2.1 _, h.2.1, heap_setCell_same _ _ _ _ _ _ h.2.2⟩
theorem HS.s2 (h : HS w b' x y z W) (u : Value) : HS w b' x y u (W.setCell ⟨b', 2, none⟩ u) := ⟨h.1.setCell h.2.1 _, h.2.1, heap_setCell_same _ _ _ _ _ _ h.2.2⟩
theorem HS.al (h : HS w b' x y z W) (o : Obj) : HS w b' x y z (W.alloc o) := ⟨h.1.alloc h.1.size _, h.2.1, at_alloc h.2.2⟩
theorem HS.be {W' : World} (h : HS w b' x y z W) (hb : Below W.heap.size W W') : HS w b' x y z W' := ⟨h.1.trans (hb.mono h.1.size), h.2.1, below_at hb h.2.2⟩
end

set_option maxRecDepth 100000 in
set_option maxHeartbeats 1600000 in
theorem sset_nil0 (b k : Nat) (key val : Int) (w : World) (h : w.heap[b]? = some (.cells #[.int .i64 0, .nilIface, .nilIface] 122 (0, 0))) (o : Nat) (ho : o = 0) :
    Calls Try.prog 70 #[.pointer (some ⟨b, 0, none⟩), .int .i64 key, .int .i64 val, .bool false] w fun e w' => ∃ b' : Nat, e = .returned (.pointer (some ⟨b', 0, none⟩)) ∧ SMapAt w' b' o (k + 1) (ins (ltO o) [] key val) ∧ Below w.heap.size w w' := by
  have H0 := Lib.hid h
  have HBL := Lib.hid (lt_of_block h)
  have HO := Lib.hid ho
  have h2 := cell_at (j := 2) h rfl
  clear h ho
  go_enter Try.func70, Try.ntmps70
  go_wp2_with fail
  refine (newCmp_w key w).mono ?_
  rintro e w1 ⟨p, rfl, hb1⟩
  have HB1 := Lib.hid hb1
  have H1 := Lib.hid (below_at hb1 H0.out)
  have hcm := cmp_default p
  rw [← HO.out] at hcm
  have HCM := Lib.hid hcm
  clear hb1 h2 hcm
  obtain ⟨cty, hcty⟩ : ∃ cty : Nat, cty = 157 := ⟨_, rfl⟩
  obtain ⟨cvv, hcvv⟩ : ∃ cvv, cvv = Value.pointer (some p) := ⟨_, rfl⟩
  rw [← hcty, ← hcvv] at HCM ⊢
  clear hcty hcvv
  go_wp2_with fail
  refine (clone_w b 0 .nilIface .nilIface w1 (.inl rfl) (.inl rfl) H1.out).mono ?_
  rintro e w2 ⟨b', rfl, hb', hh, hb2⟩
  have HH : Hid (HS w b' (.int .i64 0) .nilIface .nilIface w2) := ⟨HB1.out.trans (hb2.mono HB1.out.size), Nat.le_trans HB1.out.size hb', hh⟩
  have HB2 := Lib.hid (below_at hb2 H1.out)
  clear hb' hh hb2
  have c2 := HH.out.c2
  have f2 := HH.out.f 2
  go_upto_region 8 with (fail)
  have HH3 := Lib.hid (HH.out.s2 (.iface cty cvv))
  have HB3 : Hid ((w2.setCell ⟨b', 2, none⟩ (.iface cty cvv)).heap[b]? = some (.cells #[(.int .i64 0), .nilIface, .nilIface] 122 (0, 0))) := by
    show (w2.setCell ⟨b', 2, none⟩ _).heap[b]? = _
    rw [heap_setCell_other _ _ _ _ (by show b ≠ b'; have := HBL.out; have := HH.out.2.1; omega)]
    exact HB2.out
  clear c2 f2 HH HB2
  generalize w2.setCell ⟨b', 2, none⟩ (.iface cty cvv) = W at HH3 HB3 ⊢
  have r1 := cell_at (j := 1) HB3.out rfl
  go_upto_region 9 with (fail)
  have c0 := HH3.out.c0
  have f0 := HH3.out.f 0
  go_upto_region 10 with (fail)
  have HH4 := Lib.hid (HH3.out.s0 (.int .i64 1))
  clear c0 f0 HH3 HB3 r1
  generalize W.setCell ⟨b', 0, none⟩ (.int .i64 1) = W4 at HH4 ⊢
  have c1 := ((HH4.out.al (.cells #[.int .i64 key, .int .i64 val] 140)).al (.cells #[.slice (some ⟨W4.heap.size, 0, none⟩) 1 1] 143)).c1
  have f1 := ((HH4.out.al (.cells #[.int .i64 key, .int .i64 val] 140)).al (.cells #[.slice (some ⟨W4.heap.size, 0, none⟩) 1 1] 143)).f 1
  go_wp2_with fail
  go_ret
  have h9 := ((HH4.out.al (.cells #[.int .i64 key, .int .i64 val] 140)).al (.cells #[.slice (some ⟨W4.heap.size, 0, none⟩) 1 1] 143)).s1 (.iface 138 (.pointer (some ⟨W4.heap.size + 1, 0, none⟩)))
  refine ⟨b', rfl, ⟨_, _, h9.2.2, ins_srt (ord_ltO o) List.Pairwise.nil key val, .inr HCM.out, .inr ⟨0, 1, ⟨⟨W4.heap.size + 1, .slice (some ⟨W4.heap.size, 0, none⟩) 1 1, rfl, ?_, ?_, by rw [ins_nil]; simp, by rw [ins_nil]; simp⟩, rfl⟩, by omega⟩⟩, h9.1⟩
  · have hbz : b' < W4.heap.size := lt_of_block HH4.out.2.2
    have h := heap_alloc_last (W4.alloc (.cells #[.int .i64 key, .int .i64 val] 140)) (.cells #[.slice (some ⟨W4.heap.size, 0, none⟩) 1 1] 143)
    rw [size_alloc] at h
    rw [heap_setCell_other _ _ _ _ (by show W4.heap.size + 1 ≠ b'; omega)]
    exact h
  · have hbz : b' < W4.heap.size := lt_of_block HH4.out.2.2
    refine ents_all (g := W4.heap.size) (es := [(key, val)]) ?_
    rw [heap_setCell_other _ _ _ _ (by show W4.heap.size ≠ b'; omega)]
    exact at_alloc (heap_alloc_last W4 _)

set_option maxRecDepth 100000 in
set_option maxHeartbeats 1600000 in
theorem sset_nil1 (b k : Nat) (key val : Int) (w : World) (cv : Value) (o : Nat) (hc : CmpIs o cv) (h : w.heap[b]? = some (.cells #[.int .i64 0, .nilIface, cv] 122 (0, 0))) :
    Calls Try.prog 70 #[.pointer (some ⟨b, 0, none⟩), .int .i64 key, .int .i64 val, .bool false] w fun e w' => ∃ b' : Nat, e = .returned (.pointer (some ⟨b', 0, none⟩)) ∧ SMapAt w' b' o (k + 1) (ins (ltO o) [] key val) ∧ Below w.heap.size w w' := by
  have HCM := Lib.hid hc
  obtain ⟨cty, cvv, cfid, rfl, -, -⟩ := hc
  have H1 := Lib.hid h
  have HBL := Lib.hid (lt_of_block h)
  have h2 := cell_at (j := 2) h rfl
  have HB1 : Hid (Below w.heap.size w w) := Below.refl _ _
  obtain ⟨w1, hw1⟩ : ∃ w1, w1 = w := ⟨_, rfl⟩
  clear h
  go_enter Try.func70, Try.ntmps70
  go_wp2_with fail
  refine (clone_w b 0 .nilIface (.iface cty cvv) w (.inl rfl) (.inr ⟨_, _, rfl⟩) H1.out).mono ?_
  rintro e w2 ⟨b', rfl, hb', hh, hb2⟩
  have HH : Hid (HS w b' (.int .i64 0) .nilIface (.iface cty cvv) w2) := ⟨HB1.out.trans (hb2.mono HB1.out.size), Nat.le_trans HB1.out.size hb', hh⟩
  have HB2 := Lib.hid (below_at hb2 H1.out)
  clear hb' hh hb2
  have c2 := HH.out.c2
  have f2 := HH.out.f 2
  go_upto_region 8 with (fail)
  have HH3 := Lib.hid (HH.out.s2 (.iface cty cvv))
  have HB3 : Hid ((w2.setCell ⟨b', 2, none⟩ (.iface cty cvv)).heap[b]? = some (.cells #[(.int .i64 0), .nilIface, (.iface cty cvv)] 122 (0, 0))) := by
    show (w2.setCell ⟨b', 2, none⟩ _).heap[b]? = _
    rw [heap_setCell_other _ _ _ _ (by show b ≠ b'; have := HBL.out; have := HH.out.2.1; omega)]
    exact HB2.out
  clear c2 f2 HH HB2
  generalize w2.setCell ⟨b', 2, none⟩ (.iface cty cvv) = W at HH3 HB3 ⊢
  have r1 := cell_at (j := 1) HB3.out rfl
  go_upto_region 9 with (fail)
  have c0 := HH3.out.c0
  have f0 := HH3.out.f 0
  go_upto_region 10 with (fail)
  have HH4 := Lib.hid (HH3.out.s0 (.int .i64 1))
  clear c0 f0 HH3 HB3 r1
  generalize W.setCell ⟨b', 0, none⟩ (.int .i64 1) = W4 at HH4 ⊢
  have c1 := ((HH4.out.al (.cells #[.int .i64 key, .int .i64 val] 140)).al (.cells #[.slice (some ⟨W4.heap.size, 0, none⟩) 1 1] 143)).c1
  have f1 := ((HH4.out.al (.cells #[.int .i64 key, .int .i64 val] 140)).al (.cells #[.slice (some ⟨W4.heap.size, 0, none⟩) 1 1] 143)).f 1
  go_wp2_with fail
  go_ret
  have h9 := ((HH4.out.al (.cells #[.int .i64 key, .int .i64 val] 140)).al (.cells #[.slice (some ⟨W4.heap.size, 0, none⟩) 1 1] 143)).s1 (.iface 138 (.pointer (some ⟨W4.heap.size + 1, 0, none⟩)))
  refine ⟨b', rfl, ⟨_, _, h9.2.2, ins_srt (ord_ltO o) List.Pairwise.nil key val, .inr HCM.out, .inr ⟨0, 1, ⟨⟨W4.heap.size + 1, .slice (some ⟨W4.heap.size, 0, none⟩) 1 1, rfl, ?_, ?_, by rw [ins_nil]; simp, by rw [ins_nil]; simp⟩, rfl⟩, by omega⟩⟩, h9.1⟩
  · have hbz : b' < W4.heap.size := lt_of_block HH4.out.2.2
    have h := heap_alloc_last (W4.alloc (.cells #[.int .i64 key, .int .i64 val] 140)) (.cells #[.slice (some ⟨W4.heap.size, 0, none⟩) 1 1] 143)
    rw [size_alloc] at h
    rw [heap_setCell_other _ _ _ _ (by show W4.heap.size + 1 ≠ b'; omega)]
    exact h
  · have hbz : b' < W4.heap.size := lt_of_block HH4.out.2.2
    refine ents_all (g := W4.heap.size) (es := [(key, val)]) ?_
    rw [heap_setCell_other _ _ _ _ (by show W4.heap.size ≠ b'; omega)]
    exact at_alloc (heap_alloc_last W4 _)

theorem HS.bt {w W W' : World} {b' fb : Nat} {x y z : Value} (h : HS w b' x y z W) (hb : But (· = fb) W W') (hne : b' ≠ fb) (hge : w.heap.size ≤ fb) : HS w b' x y z W' :=
  ⟨But.below' h.1 hge h.1.size hb, h.2.1, (hb.block b' (lt_of_block h.2.2) hne).trans h.2.2⟩
/-- the nodes keep when the head is written -/
theorem HS.stay {w W : World} {b' i : Nat} {x y z : Value} (h : HS w b' x y z W) (u : Value) : Stay W (W.setCell ⟨b', i, none⟩ u) := fun b c t hb ht => by
  rw [heap_setCell_other _ _ _ _ (by
    show b ≠ b'
    rintro rfl
    rw [h.2.2] at hb
    simp only [Option.some.injEq, Obj.cells.injEq] at hb
    exact own122 (hb.2.1 ▸ ht))]
  exact hb
theorem HS.flag {w W : World} {b' fb i : Nat} {fl : Bool} {x y z : Value} (h : HS w b' x y z W) (hf : Flag W fb fl) (u : Value) : Flag (W.setCell ⟨b', i, none⟩ u) fb fl := by
  show (W.setCell ⟨b', i, none⟩ u).heap[fb]? = _
  rw [heap_setCell_other _ _ _ _ (by
    show fb ≠ b'
    rintro rfl
    have h1 := h.2.2
    unfold Flag at hf
    rw [hf] at h1
    simp only [Option.some.injEq, Obj.cells.injEq] at h1
    exact absurd h1.2.1 (by decide))]
  exact hf

set_option maxRecDepth 100000 in
set_option maxHeartbeats 3200000 in
theorem sset_tree {o : Nat} (b k : Nat) (key val : Int) (es : List (Int × Int)) (hes : es.length < 1000000) (hs : Srt (ltO o) es) (w : World) (cv root : Value) (hc : CmpIs o cv) (r n : Nat) (hcnt : Cnt w r n root es) (hk : 31 * r + n ≤ k) (h : w.heap[b]? = some (.cells #[.int .i64 (es.length : Int), root, cv] 122 (0, 0))) :
    Calls Try.prog 70 #[.pointer (some ⟨b, 0, none⟩), .int .i64 key, .int .i64 val, .bool false] w fun e w' => ∃ b' : Nat, e = .returned (.pointer (some ⟨b', 0, none⟩)) ∧ SMapAt w' b' o (k + 1) (ins (ltO o) es key val) ∧ Below w.heap.size w w' := by
  have HCM := Lib.hid hc
  obtain ⟨cty, cvv, cfid, rfl, -, -⟩ := hc
  obtain ⟨rty, rp, rfl⟩ := hcnt.sn.ptr
  have H1 := Lib.hid h
  have HBL := Lib.hid (lt_of_block h)
  have h2 := cell_at (j := 2) h rfl
  have HB1 : Hid (Below w.heap.size w w) := Below.refl _ _
  have HCN := Lib.hid hcnt
  have HSR := Lib.hid hs
  have HINS := Lib.hid (ins_len (ord_ltO o) hs key val)
  clear h hcnt hs
  go_enter Try.func70, Try.ntmps70
  go_wp2_with fail
  refine (clone_w b (es.length : Int) (.iface rty (.pointer (some ⟨rp, 0, none⟩))) (.iface cty cvv) w (.inr ⟨_, _, rfl⟩) (.inr ⟨_, _, rfl⟩) H1.out).mono ?_
  rintro e w2 ⟨b', rfl, hb', hh, hb2⟩
  have HH : Hid (HS w b' (.int .i64 (es.length : Int)) (.iface rty (.pointer (some ⟨rp, 0, none⟩))) (.iface cty cvv) w2) := ⟨HB1.out.trans (hb2.mono HB1.out.size), Nat.le_trans HB1.out.size hb', hh⟩
  have HB2 := Lib.hid (below_at hb2 H1.out)
  clear hb' hh hb2
  have c2 := HH.out.c2
  have f2 := HH.out.f 2
  go_upto_region 8 with (fail)
  have HH3 := Lib.hid (HH.out.s2 (.iface cty cvv))
  have HB3 : Hid ((w2.setCell ⟨b', 2, none⟩ (.iface cty cvv)).heap[b]? = some (.cells #[(.int .i64 (es.length : Int)), (.iface rty (.pointer (some ⟨rp, 0, none⟩))), (.iface cty cvv)] 122 (0, 0))) := by
    show (w2.setCell ⟨b', 2, none⟩ _).heap[b]? = _
    rw [heap_setCell_other _ _ _ _ (by show b ≠ b'; have := HBL.out; have := HH.out.2.1; omega)]
    exact HB2.out
  clear c2 f2 HH HB2
  generalize w2.setCell ⟨b', 2, none⟩ (.iface cty cvv) = W at HH3 HB3 ⊢
  have r1 := cell_at (j := 1) HB3.out rfl

  have HF5 : Hid (Flag (W.alloc (.cells #[.bool false] 4)) W.heap.size false) := heap_alloc_last W _
  have HH5 := Lib.hid (HH3.out.al (.cells #[.bool false] 4))
  have HFB : Hid (w.heap.size ≤ W.heap.size ∧ b' ≠ W.heap.size) := ⟨HH3.out.1.size, by have := lt_of_block HH3.out.2.2; omega⟩
  have hst : Stay w (W.alloc (.cells #[.bool false] 4)) := Stay.of_below HH5.out.1
  obtain ⟨ty9, p9, fid, e1, ⟨d1, d2, d3⟩, hcall⟩ := sset_any o (.iface cty cvv) HCM.out key val (HCN.out.stay hst) HSR.out HF5.out
  simp only [Value.iface.injEq, Value.pointer.injEq, Option.some.injEq, Addr.mk.injEq, and_true] at e1
  obtain ⟨rfl, rfl⟩ := e1
  have HCALL := Lib.hid hcall
  clear hst hcall HH3 HF5
  go_upto_region 13 with (fail)
  have r2 := cell_at (j := 1) (at_alloc (o := .cells #[.bool false] 4) HB3.out) rfl
  clear r1
  obtain ⟨fb, hfb⟩ : ∃ fb, fb = W.heap.size := ⟨_, rfl⟩
  rw [← hfb] at HCALL HFB ⊢
  clear hfb HB3
  generalize W.alloc (.cells #[.bool false] 4) = W5 at HCALL HH5 r2 ⊢
  clear W
  go_wp2_with fail
  refine HCALL.out.mono ?_
  rintro e w6 ⟨hbt, hf6, ⟨v1, n1, rfl, hn1, hcnt⟩ | ⟨hm, v1, v2, ea, eb, rfl, hab, hs1, hs2⟩⟩
  · have HH6 := Lib.hid (HH5.out.bt hbt HFB.out.2 HFB.out.1)
    have HF6 := Lib.hid hf6
    have HC6 := Lib.hid hcnt
    obtain ⟨ty1, p1, rfl⟩ := hcnt.sn.ptr
    have HN1 : Hid (31 * r + n1 ≤ k + 1) := by show _ ≤ _; omega
    clear hbt hf6 hcnt HH5 HCALL r2 hn1
    clear W5
    have c0 := HH6.out.c0
    have z0 := HH6.out.f 0
    have q0 := bcell HH6.out.1 (cell_at (j := 0) H1.out rfl)
    go_upto_region 17 with (fail)
    have HH8 := Lib.hid (HH6.out.s0 (.int .i64 (es.length : Int)))
    have HF8 := Lib.hid (HH6.out.flag (i := 0) HF6.out (.int .i64 (es.length : Int)))
    have HC8 := Lib.hid (HC6.out.stay (HH6.out.stay (i := 0) (.int .i64 (es.length : Int))))
    clear c0 z0 q0 HH6 HF6 HC6
    generalize w6.setCell ⟨b', 0, none⟩ (.int .i64 (es.length : Int)) = W8 at HH8 HF8 HC8 ⊢
    clear w6
    have c1 := HH8.out.c1
    have z1 := HH8.out.f 1
    go_upto_region 18 with (fail)
    have HH9 := Lib.hid (HH8.out.s1 (.iface ty1 (.pointer (some ⟨p1, 0, none⟩))))
    have HF9 := Lib.hid (HH8.out.flag (i := 1) HF8.out (.iface ty1 (.pointer (some ⟨p1, 0, none⟩))))
    have HC9 := Lib.hid (HC8.out.stay (HH8.out.stay (i := 1) (.iface ty1 (.pointer (some ⟨p1, 0, none⟩)))))
    clear c1 z1 HH8 HF8 HC8
    generalize W8.setCell ⟨b', 1, none⟩ (.iface ty1 (.pointer (some ⟨p1, 0, none⟩))) = W9 at HH9 HF9 HC9 ⊢
    clear W8
    have x0 := cell_at (j := 0) HF9.out rfl
    have c0 := HH9.out.c0
    have z0 := HH9.out.f 0
    have hw : IntKind.i64.wrap ((es.length : Int) + 1) = (es.length : Int) + 1 := by rw [IntKind.wrap_i64]; omega
    cases hlk : (look (ltO o) es key).isNone with
    | true =>
      have HLK := Lib.hid hlk
      rw [hlk] at x0
      clear hlk
      go_wp2_with fail
      go_ret
      have h10 := HH9.out.s0 (.int .i64 ((es.length : Int) + 1))
      refine ⟨b', rfl, ⟨_, _, ?_, ins_srt (ord_ltO o) HSR.out key val, .inr HCM.out, .inr ⟨_, _, HC9.out.stay (HH9.out.stay (i := 0) _), HN1.out⟩⟩, h10.1⟩
      rw [HINS.out, HLK.out]
      exact h10.2.2
    | false =>
      have HLK := Lib.hid hlk
      rw [hlk] at x0
      clear hlk
      go_wp2_with fail
      go_ret
      refine ⟨b', rfl, ⟨_, _, ?_, ins_srt (ord_ltO o) HSR.out key val, .inr HCM.out, .inr ⟨_, _, HC9.out, HN1.out⟩⟩, HH9.out.1⟩
      rw [HINS.out, HLK.out]
      exact HH9.out.2.2
  · have HH6 := Lib.hid (HH5.out.bt hbt HFB.out.2 HFB.out.1)
    have HF6 := Lib.hid hf6
    have HS1 := Lib.hid hs1
    have HS2 := Lib.hid hs2
    have HAB := Lib.hid hab
    obtain ⟨ty1, p1, rfl⟩ := hs1.ptr
    obtain ⟨ty2, p2, rfl⟩ := hs2.ptr
    have HKN : Hid (31 * (r + 1) + 2 ≤ k + 1) := by show _ ≤ _; omega
    clear hbt hf6 hs1 hs2 hab HH5 HCALL r2
    clear W5
    go_wp2_with fail
    have hbx : Below w6.heap.size w6 (w6.alloc (.cells #[.iface ty1 (.pointer (some ⟨p1, 0, none⟩)), .iface ty2 (.pointer (some ⟨p2, 0, none⟩))] 120)) := (Below.refl _ _).alloc (Nat.le_refl _) _
    have hstx := Stay.of_below hbx
    refine (newBr_w [(.iface ty1 (.pointer (some ⟨p1, 0, none⟩)), ea), (.iface ty2 (.pointer (some ⟨p2, 0, none⟩)), eb)] r w6.heap.size _ (fun kd hkd => ?_) (by simp) (by simp) (fun i kd hkd => ?_)).mono ?_
    · simp only [List.mem_cons, List.not_mem_nil, or_false] at hkd
      rcases hkd with rfl | rfl
      · exact HS1.out.stay hstx
      · exact HS2.out.stay hstx
    · rcases i with _ | _ | i
      · simp only [List.getElem?_cons_zero, Option.some.injEq] at hkd
        subst hkd
        exact cell_at (heap_alloc_last w6 _) rfl
      · simp only [List.getElem?_cons_succ, List.getElem?_cons_zero, Option.some.injEq] at hkd
        subst hkd
        exact cell_at (heap_alloc_last w6 _) rfl
      · simp at hkd
    rintro e w7 ⟨p3, rfl, hcnt, hb7⟩
    have hb67 : Below w6.heap.size w6 w7 := hbx.trans (hb7.mono hbx.size)
    have HH7 := Lib.hid (HH6.out.be hb67)
    have HF7 := Lib.hid (HF6.out.below hb67)
    have he : (ess [(Value.iface ty1 (.pointer (some ⟨p1, 0, none⟩)), ea), (Value.iface ty2 (.pointer (some ⟨p2, 0, none⟩)), eb)]).flatten = ins (ltO o) es key val := by rw [HAB.out]; simp [ess]
    rw [he] at hcnt
    have HC7 : Hid (Cnt w7 (r + 1) 2 (.iface 147 (.pointer (some ⟨p3, 0, none⟩))) (ins (ltO o) es key val)) := hcnt
    clear hbx hstx hb7 hb67 he hcnt HH6 HF6 HS1 HS2 HAB
    have c0 := HH7.out.c0
    have z0 := HH7.out.f 0
    have q0 := bcell HH7.out.1 (cell_at (j := 0) H1.out rfl)
    go_upto_region 17 with (fail)
    have HH8 := Lib.hid (HH7.out.s0 (.int .i64 (es.length : Int)))
    have HF8 := Lib.hid (HH7.out.flag (i := 0) HF7.out (.int .i64 (es.length : Int)))
    have HC8 := Lib.hid (HC7.out.stay (HH7.out.stay (i := 0) (.int .i64 (es.length : Int))))
    clear c0 z0 q0 HH7 HF7 HC7
    generalize w7.setCell ⟨b', 0, none⟩ (.int .i64 (es.length : Int)) = W8 at HH8 HF8 HC8 ⊢
    clear w7
    have c1 := HH8.out.c1
    have z1 := HH8.out.f 1
    go_upto_region 18 with (fail)
    have HH9 := Lib.hid (HH8.out.s1 (.iface 147 (.pointer (some ⟨p3, 0, none⟩))))
    have HF9 := Lib.hid (HH8.out.flag (i := 1) HF8.out (.iface 147 (.pointer (some ⟨p3, 0, none⟩))))
    have HC9 := Lib.hid (HC8.out.stay (HH8.out.stay (i := 1) (.iface 147 (.pointer (some ⟨p3, 0, none⟩)))))
    clear c1 z1 HH8 HF8 HC8
    generalize W8.setCell ⟨b', 1, none⟩ (.iface 147 (.pointer (some ⟨p3, 0, none⟩))) = W9 at HH9 HF9 HC9 ⊢
    clear W8
    have x0 := cell_at (j := 0) HF9.out rfl
    have c0 := HH9.out.c0
    have z0 := HH9.out.f 0
    have hw : IntKind.i64.wrap ((es.length : Int) + 1) = (es.length : Int) + 1 := by rw [IntKind.wrap_i64]; omega
    cases hlk : (look (ltO o) es key).isNone with
    | true =>
      have HLK := Lib.hid hlk
      rw [hlk] at x0
      clear hlk
      go_wp2_with fail
      go_ret
      have h10 := HH9.out.s0 (.int .i64 ((es.length : Int) + 1))
      refine ⟨b', rfl, ⟨_, _, ?_, ins_srt (ord_ltO o) HSR.out key val, .inr HCM.out, .inr ⟨_, _, HC9.out.stay (HH9.out.stay (i := 0) _), HKN.out⟩⟩, h10.1⟩
      rw [HINS.out, HLK.out]
      exact h10.2.2
    | false =>
      have HLK := Lib.hid hlk
      rw [hlk] at x0
      clear hlk
      go_wp2_with fail
      go_ret
      refine ⟨b', rfl, ⟨_, _, ?_, ins_srt (ord_ltO o) HSR.out key val, .inr HCM.out, .inr ⟨_, _, HC9.out, HKN.out⟩⟩, HH9.out.1⟩
      rw [HINS.out, HLK.out]
      exact HH9.out.2.2

/-- set of a map, whatever it has -/
theorem sset_w (o b k : Nat) (key val : Int) (es : List (Int × Int)) (hes : es.length < 1000000) (w : World) (h : SMapAt w b o k es) :
    Calls Try.prog 70 #[.pointer (some ⟨b, 0, none⟩), .int .i64 key, .int .i64 val, .bool false] w fun e w' => ∃ b' : Nat, e = .returned (.pointer (some ⟨b', 0, none⟩)) ∧ SMapAt w' b' o (k + 1) (ins (ltO o) es key val) ∧ Below w.heap.size w w' := by
  obtain ⟨root, cv, h1, h2, h3, ⟨rfl, rfl⟩ | ⟨r, n, h4, h5⟩⟩ := h
  · rcases h3 with ⟨rfl, h6, -⟩ | h3
    · exact sset_nil0 b k key val w h1 o h6
    · exact sset_nil1 b k key val w cv o h3 h1
  · have hc : CmpIs o cv := by
      rcases h3 with ⟨-, -, rfl⟩ | h
      · exact absurd rfl h4.sn.ne
      · exact h
    exact sset_tree b k key val es hes h2 w cv root hc r n h4 h5 h1
set_option maxRecDepth 100000 in
set_option maxHeartbeats 400000 in
theorem sSet_w (o b k : Nat) (key val : Int) (es : List (Int × Int)) (hes : es.length < 1000000) (w : World) (h : SMapAt w b o k es) :
    Calls Try.prog 52 #[.pointer (some ⟨b, 0, none⟩), .int .i64 key, .int .i64 val] w fun e w' => ∃ b' : Nat, e = .returned (.pointer (some ⟨b', 0, none⟩)) ∧ SMapAt w' b' o (k + 1) (ins (ltO o) es key val) ∧ Below w.heap.size w w' := by
  have H := Lib.hid (sset_w o b k key val es hes w h)
  clear h
  go_enter Try.func52, Try.ntmps52
  go_wp2_with fail
  refine H.out.mono ?_
  rintro e w' ⟨b', rfl, hm, hb⟩
  have HM := Lib.hid hm
  have HB := Lib.hid hb
  clear hm hb
  go_wp2_with fail
  go_ret
  exact ⟨_, rfl, HM.out, HB.out⟩
end Go.Proofs.Ytefigjdebakccaa
