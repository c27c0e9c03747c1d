/- delete of a sorted map (as a copy). -/
import Derived.Test.YtefigjdebakccaaSSet
namespace Go.Proofs.Ytefigjdebakccaa
open Go.RowKit

set_option maxRecDepth 100000 in
set_option maxHeartbeats 3200000 in
theorem sdel_tree {o : Nat} (b k : Nat) (key : Int) (es : List (Int × Int)) (hes : es.length < 1000000) (hs : Srt (ltO o) es) (w : World) (cv root : Value) (hc : CmpIs o cv) (r n : Nat) (hcnt : Cnt w r n root es) (hk : 31 * r + n ≤ k) (h : w.heap[b]? = some (.cells #[.int .i64 (es.length : Int), root, cv] 122 (0, 0))) :
    Calls Try.prog 71 #[.pointer (some ⟨b, 0, none⟩), .int .i64 key, .bool false] w fun e w' => ∃ b' : Nat, e = .returned (.pointer (some ⟨b', 0, none⟩)) ∧ SMapAt w' b' o k (del (ltO o) es key) ∧ Below w.heap.size w w' := by
  have HCM := Lib.hid hc
  obtain ⟨cty, cvv, cfid, rfl, -, -⟩ := hc
  obtain ⟨rty, rp, rfl⟩ := hcnt.sn.ptr
  have H1 := Lib.hid h
  have HBL := Lib.hid (lt_of_block h)
  have h1 := cell_at (j := 1) h rfl
  have HCN := Lib.hid hcnt
  have HSR := Lib.hid hs
  have HDL := Lib.hid (del_len (ord_ltO o) hs key)
  have HD0 := Lib.hid (del_new (ord_ltO o) hs (k := key))
  clear h hcnt hs
  go_enter Try.func71, Try.ntmps71
  have HF5 : Hid (Flag ((w.alloc (.cells #[.bool false] 4)).drew) w.heap.size false) := heap_alloc_last w _
  have hbx : Below w.heap.size w (w.alloc (.cells #[.bool false] 4)).drew := ((Below.refl _ _).alloc (Nat.le_refl _) _).drew
  obtain ⟨ty9, p9, fid, e1, ⟨d1, d2, d3⟩, hcall⟩ := sdel_any o (.iface cty cvv) HCM.out key (HCN.out.stay (Stay.of_below hbx)) HSR.out HF5.out
  simp only [Value.iface.injEq, Value.pointer.injEq, Option.some.injEq, Addr.mk.injEq, and_true] at e1
  obtain ⟨rfl, rfl⟩ := e1
  have HCALL := Lib.hid hcall
  have HBX := Lib.hid hbx
  clear hcall HF5 hbx
  go_upto_region 4 with (fail)
  have r1 := cell_at (j := 1) (at_alloc (o := .cells #[.bool false] 4) H1.out) rfl
  have r2 := cell_at (j := 2) (at_alloc (o := .cells #[.bool false] 4) H1.out) rfl
  clear h1
  refine region_tail 12 (by kernel_rfl) (by kernel_rfl) ?_
  simp only [List.take_succ_cons, List.take_zero, List.drop_succ_cons, List.drop_zero]
  repeat still_step
  refine wpStill_nil ?_
  clear r1 r2
  obtain ⟨fb, hfb⟩ : ∃ fb, fb = w.heap.size := ⟨_, rfl⟩
  rw [← hfb] at HCALL ⊢
  have HFB := Lib.hid hfb
  clear hfb
  generalize (w.alloc (.cells #[.bool false] 4)).drew = W5 at HCALL HBX ⊢
  go_wp2_with fail
  refine HCALL.out.mono ?_
  rintro e w6 ⟨hbt, hf6, ⟨hfo, rfl⟩ | ⟨hfo, hnil, rfl⟩ | ⟨hfo, v1, n1, rfl, hn1, hcnt⟩⟩
  · have HB6 : Hid (Below w.heap.size w w6) := But.below' HBX.out (by rw [HFB.out]; exact Nat.le_refl _) HBX.out.size hbt
    rw [hfo] at hf6
    have x0 := cell_at (j := 0) hf6 rfl
    have hlk : look (ltO o) es key = none := by simpa using hfo
    have HLK := Lib.hid hlk
    clear hbt hf6 hfo hlk HCALL
    go_wp2_with fail
    go_ret
    refine ⟨b, rfl, ?_, HB6.out⟩
    rw [HD0.out HLK.out]
    exact SMapAt.below ⟨_, _, H1.out, HSR.out, .inr HCM.out, .inr ⟨r, n, HCN.out, hk⟩⟩ HB6.out
  · have HB6 : Hid (Below w.heap.size w w6) := But.below' HBX.out (by rw [HFB.out]; exact Nat.le_refl _) HBX.out.size hbt
    rw [hfo] at hf6
    have x0 := cell_at (j := 0) hf6 rfl
    have HLK := Lib.hid hfo
    have HNL := Lib.hid hnil
    clear hbt hf6 hfo hnil HCALL
    have HB1 := Lib.hid (below_at HB6.out H1.out)
    obtain ⟨N1, hN1⟩ : ∃ N1, N1 = es.length - 1 := ⟨_, rfl⟩
    have hpos : 0 < es.length := List.length_pos_iff.2 HCN.out.sn.ne
    have hwa : IntKind.i64.wrap ((es.length : Int) - 1) = (N1 : Int) := by rw [IntKind.wrap_i64]; omega
    have hwb : (es.length : Int) - 1 = (N1 : Int) := by omega
    have hwc : IntKind.i64.wrap (N1 : Int) = (N1 : Int) := by rw [IntKind.wrap_i64]; omega
    have HN1 := Lib.hid hN1
    clear hN1 hpos
    go_wp2_with fail
    refine (clone_w b (es.length : Int) (.iface rty (.pointer (some ⟨rp, 0, none⟩))) (.iface cty cvv) w6 (.inr ⟨_, _, rfl⟩) (.inr ⟨_, _, rfl⟩) HB1.out).mono ?_
    rintro e w7 ⟨b', rfl, hb', hh, hb7⟩
    have HH7 : Hid (HS w b' (.int .i64 (es.length : Int)) (.iface rty (.pointer (some ⟨rp, 0, none⟩))) (.iface cty cvv) w7) := ⟨HB6.out.trans (hb7.mono HB6.out.size), Nat.le_trans HB6.out.size hb', hh⟩
    clear hb' hh hb7 HB1 x0
    have c0 := HH7.out.c0
    have z0 := HH7.out.f 0
    have q0 := bcell HH7.out.1 (cell_at (j := 0) H1.out rfl)
    go_upto_region 11 with (fail)
    have HH8 := Lib.hid (HH7.out.s0 (.int .i64 (N1 : Int)))
    clear c0 z0 q0 HH7 hwa hwb hwc
    generalize w7.setCell ⟨b', 0, none⟩ (.int .i64 (N1 : Int)) = W8 at HH8 ⊢
    have c1 := HH8.out.c1
    have z1 := HH8.out.f 1
    go_wp2_with fail
    go_ret
    have HH9 := Lib.hid (HH8.out.s1 (.nilIface))
    refine ⟨b', rfl, ⟨_, _, ?_, del_srt (ord_ltO o) HSR.out key, .inr HCM.out, .inl ⟨HNL.out, rfl⟩⟩, HH9.out.1⟩
    have hl := HDL.out
    rw [HLK.out, if_pos rfl] at hl
    rw [hl, ← HN1.out]
    exact HH9.out.2.2
  · have HB6 : Hid (Below w.heap.size w w6) := But.below' HBX.out (by rw [HFB.out]; exact Nat.le_refl _) HBX.out.size hbt
    rw [hfo] at hf6
    have x0 := cell_at (j := 0) hf6 rfl
    have HLK := Lib.hid hfo
    have HC6 := Lib.hid hcnt
    obtain ⟨ty1, p1, rfl⟩ := hcnt.sn.ptr
    have HNK : Hid (31 * r + n1 ≤ k) := by show _ ≤ _; omega
    clear hbt hf6 hfo hcnt hn1 HCALL
    have HB1 := Lib.hid (below_at HB6.out H1.out)
    obtain ⟨N1, hN1⟩ : ∃ N1, N1 = es.length - 1 := ⟨_, rfl⟩
    have hpos : 0 < es.length := List.length_pos_iff.2 HCN.out.sn.ne
    have hwa : IntKind.i64.wrap ((es.length : Int) - 1) = (N1 : Int) := by rw [IntKind.wrap_i64]; omega
    have hwb : (es.length : Int) - 1 = (N1 : Int) := by omega
    have hwc : IntKind.i64.wrap (N1 : Int) = (N1 : Int) := by rw [IntKind.wrap_i64]; omega
    have HN1 := Lib.hid hN1
    clear hN1 hpos
    go_wp2_with fail
    refine (clone_w b (es.length : Int) (.iface rty (.pointer (some ⟨rp, 0, none⟩))) (.iface cty cvv) w6 (.inr ⟨_, _, rfl⟩) (.inr ⟨_, _, rfl⟩) HB1.out).mono ?_
    rintro e w7 ⟨b', rfl, hb', hh, hb7⟩
    have HH7 : Hid (HS w b' (.int .i64 (es.length : Int)) (.iface rty (.pointer (some ⟨rp, 0, none⟩))) (.iface cty cvv) w7) := ⟨HB6.out.trans (hb7.mono HB6.out.size), Nat.le_trans HB6.out.size hb', hh⟩
    have HC7 := Lib.hid (HC6.out.stay (Stay.of_below hb7))
    clear hb' hh hb7 HB1 x0
    have c0 := HH7.out.c0
    have z0 := HH7.out.f 0
    have q0 := bcell HH7.out.1 (cell_at (j := 0) H1.out rfl)
    go_upto_region 11 with (fail)
    have HH8 := Lib.hid (HH7.out.s0 (.int .i64 (N1 : Int)))
    have HC8 := Lib.hid (HC7.out.stay (HH7.out.stay (i := 0) (.int .i64 (N1 : Int))))
    clear c0 z0 q0 HH7 HC7 hwa hwb hwc
    generalize w7.setCell ⟨b', 0, none⟩ (.int .i64 (N1 : Int)) = W8 at HH8 HC8 ⊢
    have c1 := HH8.out.c1
    have z1 := HH8.out.f 1
    go_wp2_with fail
    go_ret
    have HH9 := Lib.hid (HH8.out.s1 (.iface ty1 (.pointer (some ⟨p1, 0, none⟩))))
    have HC9 := Lib.hid (HC8.out.stay (HH8.out.stay (i := 1) (.iface ty1 (.pointer (some ⟨p1, 0, none⟩)))))
    refine ⟨b', rfl, ⟨_, _, ?_, del_srt (ord_ltO o) HSR.out key, .inr HCM.out, .inr ⟨_, _, HC9.out, HNK.out⟩⟩, HH9.out.1⟩
    have hl := HDL.out
    rw [HLK.out, if_pos rfl] at hl
    rw [hl, ← HN1.out]
    exact HH9.out.2.2

set_option maxRecDepth 100000 in
set_option maxHeartbeats 400000 in
theorem sdel_nil (b : Nat) (key : Int) (x z : Value) (w : World) (h : w.heap[b]? = some (.cells #[x, .nilIface, z] 122 (0, 0))) :
    Calls Try.prog 71 #[.pointer (some ⟨b, 0, none⟩), .int .i64 key, .bool false] w fun e w' => e = .returned (.pointer (some ⟨b, 0, none⟩)) ∧ w = w' := by
  have h1 := cell_at (j := 1) h rfl
  clear h
  go_enter Try.func71, Try.ntmps71
  go_wp2_with fail
  go_ret
  exact ⟨rfl, rfl⟩
set_option maxRecDepth 100000 in
set_option maxHeartbeats 400000 in
theorem sDelete_w (o b k : Nat) (key : Int) (es : List (Int × Int)) (hes : es.length < 1000000) (w : World) (h : SMapAt w b o k es) :
    Calls Try.prog 53 #[.pointer (some ⟨b, 0, none⟩), .int .i64 key] w fun e w' => ∃ b' : Nat, e = .returned (.pointer (some ⟨b', 0, none⟩)) ∧ SMapAt w' b' o k (del (ltO o) es key) ∧ Below w.heap.size w w' := by
  have H : Hid (Calls Try.prog 71 #[.pointer (some ⟨b, 0, none⟩), .int .i64 key, .bool false] w fun e w' => ∃ b' : Nat, e = .returned (.pointer (some ⟨b', 0, none⟩)) ∧ SMapAt w' b' o k (del (ltO o) es key) ∧ Below w.heap.size w w') := by
    have hm := h
    obtain ⟨root, cv, h1, h2, h3, ⟨rfl, rfl⟩ | ⟨r, n, h4, h5⟩⟩ := h
    · exact (sdel_nil b key _ _ w h1).mono fun e w' ⟨he, hw⟩ => by subst hw; exact ⟨b, he, hm, Below.refl _ _⟩
    · have hc : CmpIs o cv := by
        rcases h3 with ⟨-, -, rfl⟩ | h
        · exact absurd rfl h4.sn.ne
        · exact h
      exact sdel_tree b k key es hes h2 w cv root hc r n h4 h5 h1
  clear h
  go_enter Try.func53, Try.ntmps53
  go_wp2_with fail
  refine H.out.mono ?_
  rintro e w' ⟨b', rfl, hm, hb⟩
  have HM := Lib.hid hm
  have HB := Lib.hid hb
  clear hm hb
  go_wp2_with fail
  go_ret
  exact ⟨_, rfl, HM.out, HB.out⟩
end Go.Proofs.Ytefigjdebakccaa
