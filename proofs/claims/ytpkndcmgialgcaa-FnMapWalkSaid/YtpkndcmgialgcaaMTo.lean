/- The reference's maps: what they read as, held against a list of pairs.

The reference: a step with a map, copied.

Arguments of the law turned over: steps and pairs copied. -/
import Derived.Test.YtpkndcmgialgcaaRun
import Derived.Maps.OwnSet
import Derived.Maps.RangeWalk
import Derived.Maps.Ext
namespace Go.Proofs.Ytpkndcmgialgcaa
open Go.RowKit Go.Maps

def kl (k : Int) : Lit := .int .i64 k
def vl (v : Int) : DataW Unit := .lit (.int .i64 v)
theorem kl_ne {a b : Int} (h : a ≠ b) : kl a ≠ kl b := fun e => h (by
  unfold kl at e
  simpa using e)
theorem kl_key (k : Int) : WideAt.IsKeyLit (kl k) := by unfold kl; trivial
/-- D has what es has -/
structure GD (D : DataW Unit) (es : List (Int × Int)) : Prop where
  size : Maps.size D = es.length
  tidy : Maps.Tidy D
  has : ∀ k, Maps.has D (kl k) = Go.Proofs.Ytpkndcmgialgcaa.has es k
  at_ : ∀ k v, look es k = some v → ∀ z, D.atKey (kl k) z = vl v
theorem gd_empty : GD (.map []) [] := ⟨rfl, Maps.tidy_empty, fun k => rfl, fun k v h => by cases h⟩
theorem has_set {es es' : List (Int × Int)} {k v : Int} (hi : IsSet es k v es') (ho : Once es) (x : Int) : has es' x = if x = k then true else has es x := by
  rw [has_look (hi.once ho), set_look hi ho]
  split
  · rfl
  · rw [has_look ho]
theorem has_del {es : List (Int × Int)} (ho : Once es) (k x : Int) : has (del es k) x = if x = k then false else has es x := by
  rw [has_look (del_once ho k), del_look ho]
  split
  · rfl
  · rw [has_look ho]
theorem gd_put {D : DataW Unit} {es es' : List (Int × Int)} {k v : Int} (g : GD D es) (ho : Once es) (hi : IsSet es k v es') : GD (D.put (kl k) (vl v)) es' := by
  refine ⟨?_, g.tidy.put (kl_key k) _, fun x => ?_, fun x u hx z => ?_⟩
  · rw [Maps.size_put g.tidy, hi.length, g.has k, g.size]
  · rw [has_set hi ho]
    by_cases e : x = k
    · subst e
      rw [if_pos rfl, Maps.has_put_same g.tidy.isMap (kl_key _)]
    · rw [if_neg e, Maps.has_put_other (kl_ne e), g.has]
  · rw [set_look hi ho] at hx
    by_cases e : x = k
    · subst e
      rw [if_pos rfl] at hx
      cases hx
      rw [Maps.atKey_put_same g.tidy.isMap (kl_key _)]
    · rw [if_neg e] at hx
      rw [Maps.atKey_put_other (kl_ne e)]
      exact g.at_ x u hx z
theorem gd_del {D : DataW Unit} {es : List (Int × Int)} (g : GD D es) (ho : Once es) (k : Int) : GD (D.del (kl k)) (del es k) := by
  refine ⟨?_, g.tidy.del _, fun x => ?_, fun x u hx z => ?_⟩
  · have h1 := Maps.size_del g.tidy (k := kl k)
    rw [g.has k, g.size] at h1
    rw [del_length ho]
    by_cases hh : has es k = true
    · rw [if_pos hh] at h1 ⊢; omega
    · rw [if_neg hh] at h1 ⊢; omega
  · rw [has_del ho]
    by_cases e : x = k
    · subst e
      rw [if_pos rfl, Maps.has_del_same]
    · rw [if_neg e, Maps.has_del_other (kl_ne e), g.has]
  · rw [del_look ho] at hx
    by_cases e : x = k
    · subst e
      rw [if_pos rfl] at hx; cases hx
    · rw [if_neg e] at hx
      rw [Maps.atKey_del_other (kl_ne e)]
      exact g.at_ x u hx z

theorem key2 : Maps.Keyed Try.prog 2 := Maps.int_keyed Try.underlying2
theorem zero2 (w : World) : (zeroValue 2).run Try.prog w = .ok (.int .i64 0) w := by kernel_rfl
/-- block b is a map that has what es has -/
def GM (w : World) (b : Nat) (es : List (Int × Int)) : Prop := ∃ D : DataW Unit, w.ownsMap Try.prog 2 (plainElem Try.prog 2) b es.length D ∧ GD D es
theorem owns_size {w : World} {k : TypeId} {R : Value → Option (DataW Unit × List MemPlace)} {b n : Nat} {D : DataW Unit} (h : w.ownsMap Try.prog k R b n D) : w.ownsMap Try.prog k R b (Maps.size D) D := by
  obtain ⟨es, clock, hb, F, hs, hD⟩ := h
  refine ⟨es, clock, hb, F, ?_, hD⟩
  rw [hD, Maps.size_eq, length_sorted]
  simp
theorem GM.of {w : World} {b n : Nat} {D : DataW Unit} {es : List (Int × Int)} (h : w.ownsMap Try.prog 2 (plainElem Try.prog 2) b n D) (g : GD D es) : GM w b es := ⟨D, by have := owns_size h; rw [g.size] at this; exact this, g⟩
theorem GM.kept {w w' : World} {b : Nat} {es : List (Int × Int)} {row : Option Nat} (h : GM w b es) (hg : w.grownBy w' row) (hne : some b ≠ row) : GM w' b es := by
  obtain ⟨D, h1, h2⟩ := h
  exact ⟨D, h1.kept hg hne, h2⟩
theorem GM.below {w w' : World} {b : Nat} {es : List (Int × Int)} (h : GM w b es) (hb : Below w.heap.size w w') : GM w' b es := h.kept (grown_below hb) (by simp)
theorem GM.lt {w : World} {b : Nat} {es : List (Int × Int)} (h : GM w b es) : b < w.heap.size := by
  obtain ⟨D, h1, _⟩ := h
  exact h1.lt
def Wf (k : Int) : Prop := (Lit.int .i64 k).wf = true
theorem wrap_wf (x : Int) : Wf (wrap64 x) := wrap64_wf _
theorem wf_nat {n : Nat} (h : n ≤ 1000000) : Wf (n : Int) := WalkArith.wf_i64 (by omega)
end Go.Proofs.Ytpkndcmgialgcaa

namespace Go.Proofs.Ytpkndcmgialgcaa
open Go.RowKit Go.Maps

theorem wf_sum (a b : Int) : Wf (wrap64 (a + b)) := wrap_wf _

theorem run_makeMap_hint (z : Int) (w : World) : (Instr.makeMap 39 (some (.int .i64 z))).run Try.prog w = .ok (.map (some w.heap.size)) (w.alloc (.map #[] 0)) := by
  kernel_rfl

set_option maxRecDepth 100000 in
set_option maxHeartbeats 3200000 in
theorem mapDo_w (h : Int → Nat) (s : Stp) (m : MS Int Int) (b0 : Nat) (w : World) (hg : GM w b0 m.es) (ho : Once m.es) (hl : m.es.length < 60000000) (hk : s.k ≤ 3) (hc0 : 0 ≤ s.C) (hc1 : s.C ≤ 100000) (hwk : Wf s.K) (hwv : Wf s.V) :
    Calls Try.prog 53 #[.map (some b0), .agg #[.int .u8 (s.k : Int), .int .i64 s.F, .int .i64 s.K, .int .i64 s.V, .int .i64 s.C]] w fun e w' => ∃ b1, e = .returned (.map (some b1)) ∧ GM w' b1 (s.act h m).es ∧ w.heap.size ≤ b1 ∧ Below w.heap.size w w' := by
  have hmm := @run_makeMap Try.prog
  obtain ⟨sk, sF, sK, sV, sC⟩ := s
  simp only at hk hc0 hc1 hwk hwv ⊢
  obtain ⟨cn, rfl⟩ : ∃ cn : Nat, sC = (cn : Int) := ⟨sC.toNat, by omega⟩
  have HWK := Lib.hid hwk
  have HWV := Lib.hid hwv
  have HO := Lib.hid ho
  have HG := Lib.hid hg
  obtain ⟨D0, hd1, hd2⟩ := hg
  have HD := Lib.hid hd2
  have hb0 : Below w.heap.size w (w.alloc (.cells #[.int .u8 (sk : Int), .int .i64 sF, .int .i64 sK, .int .i64 sV, .int .i64 (cn : Int)] 41)) := (Below.refl _ _).alloc (Nat.le_refl _) _
  have hdX := hd1.kept (grown_below hb0) (by simp)
  have HB0 := Lib.hid hb0
  have HX := Lib.hid (heap_alloc_last w (.cells #[.int .u8 (sk : Int), .int .i64 sF, .int .i64 sK, .int .i64 sV, .int .i64 (cn : Int)] 41))
  have HDX := Lib.hid hdX
  have HLT0 := Lib.hid hd1.lt
  have HL := Lib.hid hl
  clear hd1 hd2 hwk hwv ho hb0 hdX hl
  go_enter Try.func53, Try.ntmps53
  go_upto_region 1 with (fail)
  generalize w.alloc (.cells #[.int .u8 (sk : Int), .int .i64 sF, .int .i64 sK, .int .i64 sV, .int .i64 (cn : Int)] 41) = X at HB0 HX HDX ⊢
  obtain ⟨bx, hbx⟩ : ∃ bx, bx = w.heap.size := ⟨_, rfl⟩
  rw [← hbx] at HX ⊢
  have HBX := Lib.hid hbx
  clear hbx
  have HN : Hid (m.es.length < 60000000) := HL
  obtain ⟨N, hN⟩ : ∃ N, N = m.es.length := ⟨_, rfl⟩
  rw [← hN] at HDX HN HL
  have hSz : Maps.size D0 = N := by rw [HD.out.size, hN]
  have HSZ := Lib.hid hSz
  clear hSz
  have HNE := Lib.hid hN
  clear hN
  have hh := run_makeMap_hint
  go_wp2_with (first | (at_len; refine wpList_len_own _ rfl _ 39 rfl 2 2 Try.underlying39 _ b0 _ D0 rfl HDX.out ?_; rw [HSZ.out]) | (at_range; refine wpList_range_own _ rfl _ 39 rfl 2 2 key2 Try.underlying39 _ b0 N D0 rfl (HDX.out.alloc _) ?_; intro w0 hrg0 hg0 hs0) | go_in)
  go_frame
  obtain ⟨ob, hob⟩ : ∃ ob, ob = X.heap.size := ⟨_, rfl⟩
  obtain ⟨ib, hib⟩ : ∃ ib, ib = (X.alloc (.map #[] 0)).heap.size := ⟨_, rfl⟩
  rw [← hib] at hrg0 hs0 ⊢
  rw [← hob] at ⊢
  have hio : ib = ob + 1 := by rw [hib, hob, size_alloc]
  have hbo : b0 < ob := by have := HB0.out.size; have := HLT0.out; omega
  have hB0 : Below w.heap.size w w0 := (HB0.out.alloc HB0.out.size (.map #[] 0)).grown hg0 (by have := HB0.out.size; rw [size_alloc]; omega) (by simp)
  have hX0 : w0.heap[bx]? = some (.cells #[.int .u8 (sk : Int), .int .i64 sF, .int .i64 sK, .int .i64 sV, .int .i64 (cn : Int)] 41) := by
    rw [hg0.block bx (by have := lt_of_block HX.out; rw [size_alloc]; omega) (by simp)]
    exact at_alloc HX.out
  have hoM : w0.ownsMap (H := Unit) Try.prog 2 (plainElem Try.prog 2) ob 0 (.map []) := by
    rw [hob]; exact (World.ownsMap_made _ _ _ _).kept hg0 (by simp)
  have hxo : bx < ob := by rw [hob]; exact lt_of_block HX.out
  have hwo : w.heap.size ≤ ob := by rw [hob]; exact HB0.out.size
  have HIO := Lib.hid hio
  have HBO := Lib.hid hbo
  have HXO := Lib.hid hxo
  have HWO := Lib.hid hwo
  have HB1 := Lib.hid hB0
  have HX1 := Lib.hid hX0
  have HOM := Lib.hid hoM
  have HRG := Lib.hid (HSZ.out ▸ hrg0)
  clear hrg0 hg0 hs0 hib hob hio hbo hB0 hX0 hoM hxo hwo
  go_loopg [] N (fun k wr => ∃ (left : Lit → Bool) (Dout : DataW Unit), wr.ranges Try.prog 2 (plainElem Try.prog 2) b0 ib N D0 left k ∧ k ≤ N ∧ wr.ownsMap Try.prog 2 (plainElem Try.prog 2) ob (N - k) Dout ∧ Agree Dout D0 left ∧ Below w.heap.size w wr ∧ wr.heap[bx]? = some (.cells #[.int .u8 (sk : Int), .int .i64 sF, .int .i64 sK, .int .i64 sV, .int .i64 (cn : Int)] 41))
  case atStart => exact ⟨_, .map [], HRG.out, Nat.le_refl _, HOM.out.mono (Nat.zero_le _), agree_start D0, HB1.out, HX1.out⟩
  case round =>
    obtain ⟨left, Dout, hrg, hcs, hout, hA, hnx, hxr⟩ := hrel
    have HOUT := Lib.hid hout
    have HNX := Lib.hid hnx
    have HXR := Lib.hid hxr
    have HA := Lib.hid hA
    have HCS := Lib.hid hcs
    have HRG2 := Lib.hid hrg
    clear hout hnx hxr hA HRG HOM HX1 HB1 hrg hcs
    go_wp2_with (first
      | (at_next; refine wpList_next_ranges_ii _ rfl _ rfl 2 2 .i64 .i64 key2 Try.underlying2 Try.underlying2 b0 ib N _ _ _ rfl HRG2.out ?_ ?_)
      | go_in)
    · intro hk0 hl0
      have hD : Dout = D0 := agree_end HA.out hl0 (HOUT.out.canon key2) ((HDX.out).canon key2)
      have hgm : GM wr ob m.es := by
        rw [hD] at HOUT
        exact GM.of HOUT.out HD.out
      have HGM := Lib.hid hgm
      clear hgm hl0 hk0 hD
      have s0 := cell_at (j := 0) HXR.out rfl
      have s2 := cell_at (j := 2) HXR.out rfl
      have s3 := cell_at (j := 3) HXR.out rfl
      have s4 := cell_at (j := 4) HXR.out rfl
      have hsk : sk = 0 ∨ sk = 1 ∨ sk = 2 ∨ sk = 3 := by omega
      have hout0 := HGM.out
      obtain ⟨Do, hDo, hDg⟩ := hout0
      have HDo := Lib.hid hDo
      have HDG := Lib.hid hDg
      clear hDo hDg
      rcases hsk with rfl | rfl | rfl | rfl
      · go_wp2_with (first | (at_mapUpdate; refine wpList_mapUpdate_own _ rfl _ _ _ 39 rfl 2 2 key2 Try.underlying39 _ ob _ _ rfl HDo.out (by have := HNE.out; have := HN.out; unfold maxLen; omega) _ _ _ rfl rfl (keyOf_int_mk Try.underlying2 HWK.out) _ [] (plainElem_int Try.underlying2 HWV.out) ?_; intro w2 hout2 hg2; go_frame) | go_in)
        go_ret
        have hwo := HWO.out
        exact ⟨ob, rfl, GM.of hout2 (gd_put HDG.out HO.out (MS.set_is h _ HO.out _ _)), hwo, HNX.out.grown hg2 (by have := HNX.out.size; omega) (fun j hj => by cases hj; exact hwo)⟩
      · go_wp2_with (first | (at_delete; refine wpList_delete_own _ rfl _ _ 39 2 rfl 2 key2 Try.underlying39 _ ob _ _ rfl HDo.out _ _ rfl (keyOf_int_mk Try.underlying2 HWK.out) ?_; intro w2 hout2 hg2; have hg2 := hg2.grown; go_frame) | go_in)
        go_ret
        have hwo := HWO.out
        exact ⟨ob, rfl, GM.of hout2 (gd_del HDG.out HO.out _), hwo, HNX.out.grown hg2 (by have := HNX.out.size; omega) (fun j hj => by cases hj; exact hwo)⟩
      · go_wp2_with fail
        go_loopg [56] cn (fun k v8 wc => ∃ (i : Nat), i + k = cn ∧ v8 = .int .i64 (i : Int) ∧ GM wc ob (mkMany h ⟨2, sF, sK, sV, (cn : Int)⟩ m i).es ∧ Below w.heap.size w wc ∧ wc.heap[bx]? = some (.cells #[.int .u8 (2 : Int), .int .i64 sF, .int .i64 sK, .int .i64 sV, .int .i64 (cn : Int)] 41))
        case atStart => exact ⟨0, by omega, rfl, HGM.out, HNX.out, HXR.out⟩
        case round =>
          obtain ⟨i, hik, rfl, hgm, hbc, hxc⟩ := hrel
          have HGM2 := Lib.hid hgm
          have HBC := Lib.hid hbc
          have HXC := Lib.hid hxc
          clear hgm hbc hxc
          have s2 := cell_at (j := 2) HXC.out rfl
          have s3 := cell_at (j := 3) HXC.out rfl
          have s4 := cell_at (j := 4) HXC.out rfl
          have hwi : IntKind.i64.wrap ((i : Int) + 1) = (i : Int) + 1 := by rw [IntKind.wrap_i64]; omega
          by_cases hlt2 : i < cn
          · have h2 : decide ((i : Int) < (cn : Int)) = true := by simp; omega
            obtain ⟨o1, o2⟩ := mkMany_ok (h := h) (s := ⟨2, sF, sK, sV, (cn : Int)⟩) HO.out i
            have HO2 : Hid ((mkMany h ⟨2, sF, sK, sV, (cn : Int)⟩ m i).es.length < 90000000) := by have := HNE.out; have := HN.out; show _ < _; omega
            have HON := Lib.hid o1
            obtain ⟨Do, hDo, hDg⟩ := HGM2.out
            have HDo := Lib.hid hDo
            have HDG := Lib.hid hDg
            clear o1 o2 hDo hDg
            go_wp2_with (first | (at_mapUpdate; refine wpList_mapUpdate_own _ rfl _ _ _ 39 rfl 2 2 key2 Try.underlying39 _ ob _ _ rfl HDo.out (by have := HO2.out; unfold maxLen; omega) _ _ _ rfl rfl (keyOf_int_mk Try.underlying2 (wf_sum _ _)) _ [] (plainElem_int Try.underlying2 (wf_nat (by omega))) ?_; intro w2 hout2 hg2; go_frame) | go_in)
            have hwo := HWO.out
            have hxo := HXO.out
            go_roundg (gk - 1)
            case measure => omega
            case rel =>
              refine ⟨i + 1, by omega, by go_num, ?_, HBC.out.grown hg2 (by have := HBC.out.size; omega) (fun j hj => by cases hj; exact hwo), ?_⟩
              · rw [mkMany_succ]
                exact GM.of hout2 (gd_put HDG.out HON.out (MS.set_is h _ HON.out _ _))
              · rw [hg2.block bx (lt_of_block HXC.out) (by simp; omega)]
                exact HXC.out
          · have h2 : decide ((i : Int) < (cn : Int)) = false := by simp; omega
            obtain rfl : i = cn := by omega
            go_wp2_with fail
            go_ret
            exact ⟨ob, rfl, HGM2.out, HWO.out, HBC.out⟩
      · go_wp2_with fail
        go_loopg [28] cn (fun k v8 wc => ∃ (i : Nat), i + k = cn ∧ v8 = .int .i64 (i : Int) ∧ GM wc ob (mkLess ⟨3, sF, sK, sV, (cn : Int)⟩ m i).es ∧ Below w.heap.size w wc ∧ wc.heap[bx]? = some (.cells #[.int .u8 (3 : Int), .int .i64 sF, .int .i64 sK, .int .i64 sV, .int .i64 (cn : Int)] 41))
        case atStart => exact ⟨0, by omega, rfl, HGM.out, HNX.out, HXR.out⟩
        case round =>
          obtain ⟨i, hik, rfl, hgm, hbc, hxc⟩ := hrel
          have HGM2 := Lib.hid hgm
          have HBC := Lib.hid hbc
          have HXC := Lib.hid hxc
          clear hgm hbc hxc
          have s2 := cell_at (j := 2) HXC.out rfl
          have s3 := cell_at (j := 3) HXC.out rfl
          have s4 := cell_at (j := 4) HXC.out rfl
          have hwi : IntKind.i64.wrap ((i : Int) + 1) = (i : Int) + 1 := by rw [IntKind.wrap_i64]; omega
          by_cases hlt2 : i < cn
          · have h2 : decide ((i : Int) < (cn : Int)) = true := by simp; omega
            obtain ⟨o1, o2⟩ := mkLess_ok (s := ⟨3, sF, sK, sV, (cn : Int)⟩) HO.out i
            have HO2 : Hid ((mkLess ⟨3, sF, sK, sV, (cn : Int)⟩ m i).es.length < 90000000) := by have := HNE.out; have := HN.out; show _ < _; omega
            have HON := Lib.hid o1
            obtain ⟨Do, hDo, hDg⟩ := HGM2.out
            have HDo := Lib.hid hDo
            have HDG := Lib.hid hDg
            clear o1 o2 hDo hDg
            go_wp2_with (first | (at_delete; refine wpList_delete_own _ rfl _ _ 39 2 rfl 2 key2 Try.underlying39 _ ob _ _ rfl HDo.out _ _ rfl (keyOf_int_mk Try.underlying2 (wf_sum _ _)) ?_; intro w2 hout2 hg2; have hg2 := hg2.grown; go_frame) | go_in)
            have hwo := HWO.out
            have hxo := HXO.out
            go_roundg (gk - 1)
            case measure => omega
            case rel =>
              refine ⟨i + 1, by omega, by go_num, ?_, HBC.out.grown hg2 (by have := HBC.out.size; omega) (fun j hj => by cases hj; exact hwo), ?_⟩
              · rw [mkLess_succ]
                exact GM.of hout2 (gd_del HDG.out HON.out _)
              · rw [hg2.block bx (lt_of_block HXC.out) (by simp; omega)]
                exact HXC.out
          · have h2 : decide ((i : Int) < (cn : Int)) = false := by simp; omega
            obtain rfl : i = cn := by omega
            go_wp2_with fail
            go_ret
            exact ⟨ob, rfl, HGM2.out, HWO.out, HBC.out⟩
    · intro x c w1 cnt1 hwx hwc hlx hat hrg1 hlt hg1 hs1 hen
      have hio := HIO.out
      have hbo := HBO.out
      have hxo := HXO.out
      have hwo := HWO.out
      have hcs := HCS.out
      have hn := HN.out
      have hout1 := HOUT.out.kept hg1 (by simp; omega)
      have HWX := Lib.hid hwx
      have HWC := Lib.hid hwc
      have HRG1 := Lib.hid hrg1
      have HG1 := Lib.hid hg1
      have HAT := Lib.hid hat
      have HOUT1 := Lib.hid hout1
      have HLT := Lib.hid hlt
      have HIO2 : Hid (ob < ib ∧ b0 < ob ∧ bx < ob ∧ w.heap.size ≤ ob ∧ gk ≤ N ∧ N < 60000000 ∧ w1.heap.size = wr.heap.size) := ⟨by omega, hbo, hxo, hwo, hcs, hn, hs1⟩
      clear hwx hwc hlx hat hrg1 hlt hg1 hs1 hout1 hio hbo hxo hwo hcs hn
      go_wp2_with (first
        | (at_mapUpdate; refine wpList_mapUpdate_own _ rfl _ _ _ 39 rfl 2 2 key2 Try.underlying39 _ ob _ _ rfl HOUT1.out (by obtain ⟨a1, a2, a3, a4, a5, a6, a7⟩ := HIO2.out; unfold maxLen; omega) _ _ _ rfl rfl (keyOf_int_mk Try.underlying2 HWX.out) _ [] (plainElem_int Try.underlying2 HWC.out) ?_; intro w2 hout2 hg2; go_frame)
        | go_in)
      obtain ⟨a1, a2, a3, a4, a5, a6, a7⟩ := HIO2.out
      have hrg2 := HRG1.out.kept hg2 (fun e => by have := Option.some.inj e; omega) (fun e => by have := Option.some.inj e; omega)
      have hlt := HLT.out
      go_roundg cnt1
      case measure => exact hlt
      case rel =>
        refine ⟨_, _, hrg2, by omega, hout2.mono (by omega), agree_step HA.out HOUT.out.isMap trivial HAT.out, (HNX.out.grown HG1.out HNX.out.size (fun j hj => by cases hj; omega)).grown hg2 (by have := HNX.out.size; omega) (fun j hj => by cases hj; omega), ?_⟩
        have hxl := lt_of_block HXR.out
        rw [hg2.block bx (by omega) (by simp; omega), HG1.out.block bx hxl (by simp; omega)]
        exact HXR.out
end Go.Proofs.Ytpkndcmgialgcaa

namespace Go.Proofs.Ytpkndcmgialgcaa
open Go.RowKit

/-- sv is a slice that reads these steps -/
def StpV (w : World) (sv : Value) (steps : List Stp) : Prop :=
  ∃ (a : Option Addr) (cap : Nat), sv = .slice a steps.length cap ∧ ∀ j s, steps[j]? = some s → ∃ sb so, a = some ⟨sb, so, none⟩ ∧ ∀ i u, s.cells[i]? = some u → w.cell? ⟨sb, so + j * 5 + i, none⟩ = some u
theorem StpV.below {w w' : World} {sv : Value} {steps : List Stp} (h : StpV w sv steps) (b : Below w.heap.size w w') : StpV w' sv steps := by
  obtain ⟨a, cap, h1, h2⟩ := h
  refine ⟨a, cap, h1, fun j s hs => ?_⟩
  obtain ⟨sb, so, h3, h4⟩ := h2 j s hs
  exact ⟨sb, so, h3, fun i u hu => (b.cell (World.block_lt_of_cell? w _ (h4 i u hu))).trans (h4 i u hu)⟩
theorem flat_get : ∀ (steps : List Stp) (j : Nat) (s : Stp), steps[j]? = some s → ∀ (i : Nat) (u : Value), s.cells[i]? = some u → (steps.flatMap Stp.cells)[j * 5 + i]? = some u
  | [], j, s, h, i, u, hu => by simp at h
  | a :: l, 0, s, h, i, u, hu => by
    simp only [List.getElem?_cons_zero, Option.some.injEq] at h
    subst h
    have hi : i < a.cells.length := (List.getElem?_eq_some_iff.1 hu).1
    rw [List.flatMap_cons, Nat.zero_mul, Nat.zero_add, List.getElem?_append_left hi]
    exact hu
  | a :: l, j + 1, s, h, i, u, hu => by
    rw [List.getElem?_cons_succ] at h
    have hl : a.cells.length = 5 := rfl
    rw [List.flatMap_cons, List.getElem?_append_right (by omega), show (j + 1) * 5 + i - a.cells.length = j * 5 + i by omega]
    exact flat_get l j s h i u hu
theorem StpW.of_own {w : World} {B n : Nat} {v : Value} {steps : List Stp} (h : w.ownsRow B 88 5 v n (steps.flatMap Stp.cells)) (hn : n = steps.length) : StpW w v steps := by
  subst hn
  rcases h.2 with ⟨h1, h2⟩ | ⟨g, cap, cur, h1, h2, h3, _⟩
  · exact .inl ⟨h1, List.eq_nil_of_length_eq_zero h2⟩
  · refine .inr ⟨g, 0, cap, h1, lt_of_block h3, fun j s hs i u hu => ?_⟩
    have h4 := h.cells (g := g) (by rw [h1]; rfl) (j * 5 + i) u (flat_get steps j s hs i u hu)
    rw [Addr.add_lit] at h4
    rw [Nat.add_assoc]
    exact h4
theorem stp_cells5 {w : World} (s : Stp) (t : TypeId) : ∀ j u, s.cells[j]? = some u → (w.alloc (.cells s.cells.toArray t)).cell? ((⟨w.heap.size, 0, none⟩ : Addr).add j) = some u := fun j u hu => by
  rw [Addr.add_lit, Nat.zero_add]
  exact cell_at (heap_alloc_last w _) (by simpa using hu)
theorem stp_one (s : Stp) : ∀ u ∈ s.cells, u.oneCell' = true := fun u hu => by
  simp only [Stp.cells, List.mem_cons, List.not_mem_nil, or_false] at hu
  rcases hu with rfl | rfl | rfl | rfl | rfl <;> rfl

theorem info88 : (Try.prog.info? 88).map (fun i => (i.zero, i.size, i.bytes)) = some (some (.agg #[.int .u8 0, .int .i64 0, .int .i64 0, .int .i64 0, .int .i64 0]), 5, 40) := by kernel_rfl
theorem info50 : (Try.prog.info? 50).map (fun i => (i.zero, i.size, i.bytes)) = some (some (.agg #[.int .i64 0, .int .i64 0]), 2, 16) := by kernel_rfl

set_option maxRecDepth 100000 in
set_option maxHeartbeats 1600000 in
set_option maxRecDepth 100000 in
set_option maxHeartbeats 1600000 in
theorem mapTo_w (sv : Value) (steps : List Stp) (w : World) (hs : StpV w sv steps) (hl : steps.length ≤ 500) :
    Calls Try.prog 24 #[sv] w fun e w' => ∃ v, e = .returned v ∧ StpW w' v steps ∧ Below w.heap.size w w' := by
  obtain ⟨i88, hi, hz0, hz1, hz2⟩ := info_parts info88
  have HI := Lib.hid (And.intro hi (And.intro hz0 (And.intro hz1 hz2)))
  clear hi hz0 hz1 hz2
  obtain ⟨sa, sc, rfl, hcells⟩ := hs
  have HCE := Lib.hid hcells
  have HL := Lib.hid hl
  clear hcells hl
  go_enter Try.func24, Try.ntmps24
  go_wp2_with fail
  go_loopg [3, 8] steps.length (fun k v i wr => ∃ j : Nat, j + k = steps.length ∧ i = .int .i64 (j : Int) ∧ wr.ownsRow w.heap.size 88 5 v j ((steps.take j).flatMap Stp.cells) ∧ Below w.heap.size w wr)
  case atStart => exact ⟨0, by omega, rfl, World.ownsRow_nil _ _ _ _, Below.refl _ _⟩
  case round =>
    obtain ⟨j, hjk, rfl, ho, hb⟩ := hrel
    have HO := Lib.hid ho
    have HB := Lib.hid hb
    clear ho hb
    have hw1 : IntKind.i64.wrap ((j : Int) + 1) = (j : Int) + 1 := by have := HL.out; rw [IntKind.wrap_i64]; omega
    by_cases hlt : j < steps.length
    · have h1 : decide ((j : Int) < (steps.length : Int)) = true := by simp; omega
      obtain ⟨⟨sk, sF, sK, sVv, sV⟩, hs⟩ : ∃ s, s = steps[j] := ⟨_, rfl⟩
      have hs' : steps[j]? = some ⟨sk, sF, sK, sVv, sV⟩ := by rw [List.getElem?_eq_getElem hlt, hs]
      obtain ⟨sb, so, rfl, hcells⟩ := HCE.out j _ hs'
      have hsb : sb < w.heap.size := World.block_lt_of_cell? w _ (hcells 0 _ rfl)
      have e0 : wr.cell? ⟨sb, so + j * 5, none⟩ = some (.int .u8 (sk : Int)) := (HB.out.cell hsb).trans (hcells 0 _ rfl)
      have e1 : wr.cell? ⟨sb, so + j * 5 + 1, none⟩ = some (.int .i64 sF) := (HB.out.cell hsb).trans (hcells 1 _ rfl)
      have e2 : wr.cell? ⟨sb, so + j * 5 + 2, none⟩ = some (.int .i64 sK) := (HB.out.cell hsb).trans (hcells 2 _ rfl)
      have e3 : wr.cell? ⟨sb, so + j * 5 + 3, none⟩ = some (.int .i64 sVv) := (HB.out.cell hsb).trans (hcells 3 _ rfl)
      have e4 : wr.cell? ⟨sb, so + j * 5 + 4, none⟩ = some (.int .i64 sV) := (HB.out.cell hsb).trans (hcells 4 _ rfl)
      have HS := Lib.hid hs'
      clear hcells hs hs' hsb
      go_upto_region 5 with (fail)
      have hA : Below wr.heap.size wr (wr.alloc (.cells #[.int .u8 (sk : Int), .int .i64 sF, .int .i64 sK, .int .i64 sVv, .int .i64 sV] 41)) := (Below.refl _ wr).alloc (Nat.le_refl _) _
      have hbx := heap_alloc_last wr (.cells #[.int .u8 (sk : Int), .int .i64 sF, .int .i64 sK, .int .i64 sVv, .int .i64 sV] 41)
      have HOX := Lib.hid (own_below HO.out hA)
      have HBX := Lib.hid (HB.out.trans (hA.mono HB.out.size))
      generalize wr.heap.size = bx at hbx ⊢
      generalize wr.alloc (.cells #[.int .u8 (sk : Int), .int .i64 sF, .int .i64 sK, .int .i64 sVv, .int .i64 sV] 41) = X at hbx HOX HBX ⊢
      clear e0 e1 e2 e3 e4 hA HO HB wr
      have s0 := cell_at (j := 0) hbx rfl
      have s1 := cell_at (j := 1) hbx rfl
      have s2 := cell_at (j := 2) hbx rfl
      have s3 := cell_at (j := 3) hbx rfl
      have s4 := cell_at (j := 4) hbx rfl
      go_wp2_with (at_builtin; refine wpList_append_own _ rfl (.tmp 12) (.tmp 14) 35 rfl w.heap.size 88 i88 (.agg #[.int .u8 0, .int .i64 0, .int .i64 0, .int .i64 0, .int .i64 0]) 5 40 Try.underlying35 HI.out.1 HI.out.2.1 HI.out.2.2.1 HI.out.2.2.2 rfl (by decide) _ _ _ rfl (HOX.out.alloc _) ⟨X.heap.size, 0, none⟩ 1 1 (Stp.cells ⟨sk, sF, sK, sVv, sV⟩) rfl rfl (stp_cells5 _ _) (stp_one _) (by have := HL.out; unfold maxLen; omega) (by have := HL.out; omega) (by have := HBX.out.size; simp; omega) ?_)
      intro v2 w2 hown2 hgrow2 _
      have HO2 := Lib.hid hown2
      have HB2 := Lib.hid (below_grown (HBX.out.alloc HBX.out.size (.cells (Stp.cells ⟨sk, sF, sK, sVv, sV⟩).toArray 88)) HOX.out (Nat.le_refl _) (Nat.le_refl _) hgrow2)
      clear hown2 hgrow2
      go_wp2_with fail
      go_roundg (gk - 1)
      case measure => omega
      case rel =>
        refine ⟨j + 1, by omega, rfl, ?_, HB2.out⟩
        have e1 : steps.take (j + 1) = steps.take j ++ [⟨sk, sF, sK, sVv, sV⟩] := by
          rw [List.take_add_one, HS.out]; rfl
        rw [e1, List.flatMap_append]
        simpa [List.flatMap_cons, List.flatMap_nil] using HO2.out
    · have h1 : decide ((j : Int) < (steps.length : Int)) = false := by simp; omega
      obtain rfl : j = steps.length := by omega
      go_wp2_with fail
      go_ret
      refine ⟨_, rfl, ?_, HB.out⟩
      have h := HO.out
      rw [List.take_length] at h
      exact StpW.of_own h rfl

/-- v is a slice that reads these pairs -/
def PairV (w : World) (v : Value) (es : List (Int × Int)) : Prop :=
  ∃ (a : Option Addr) (cap : Nat), v = .slice a es.length cap ∧ ∀ i e, es[i]? = some e → ∃ g o, a = some ⟨g, o, none⟩ ∧ w.cell? ⟨g, o + i * 2, none⟩ = some (.int .i64 e.1) ∧ w.cell? ⟨g, o + i * 2 + 1, none⟩ = some (.int .i64 e.2)
theorem PairV.below {w w' : World} {v : Value} {es : List (Int × Int)} (h : PairV w v es) (b : Below w.heap.size w w') : PairV w' v es := by
  obtain ⟨a, cap, h1, h2⟩ := h
  refine ⟨a, cap, h1, fun i e he => ?_⟩
  obtain ⟨g, o, h3, h4, h5⟩ := h2 i e he
  exact ⟨g, o, h3, (b.cell (World.block_lt_of_cell? w _ h4)).trans h4, (b.cell (World.block_lt_of_cell? w _ h5)).trans h5⟩
theorem PairV.of_seen {w : World} {v : Value} {es : List (Int × Int)} (h : SeenV w v es) : PairV w v es := by
  rcases h with ⟨rfl, rfl⟩ | ⟨g, c, cur, rfl, h1, h2⟩
  · exact ⟨none, 0, rfl, fun i e he => by simp at he⟩
  · refine ⟨_, c, rfl, fun i e he => ⟨g, 0, rfl, ?_, ?_⟩⟩
    · rw [Nat.zero_add]; exact cell_at h1 (h2 i e he).1
    · rw [Nat.zero_add]; exact cell_at h1 (h2 i e he).2
theorem PairV.of_own {w : World} {B n : Nat} {t : TypeId} {v : Value} {es : List (Int × Int)} (h : w.ownsRow B t 2 v n (ecells es)) (hn : n = es.length) : PairV w v es := by
  subst hn
  rcases h.2 with ⟨h1, h2⟩ | ⟨g, cap, cur, h1, _⟩
  · have h3 := List.eq_nil_of_length_eq_zero h2
    subst h3
    exact ⟨none, 0, h1, fun i e he => by simp at he⟩
  · refine ⟨_, cap, h1, fun i e he => ⟨g, 0, rfl, ?_, ?_⟩⟩
    · have h4 := h.cells (g := g) (by rw [h1]; rfl) (i * 2) _ (ecells_at he).1
      rw [Addr.add_lit] at h4
      exact h4
    · have h4 := h.cells (g := g) (by rw [h1]; rfl) (i * 2 + 1) _ (ecells_at he).2
      rw [Addr.add_lit] at h4
      rw [Nat.add_assoc]
      exact h4

set_option maxRecDepth 100000 in
set_option maxHeartbeats 1600000 in
theorem pairsOf_w (sv : Value) (es : List (Int × Int)) (w : World) (hs : PairV w sv es) (hl : es.length ≤ 100000000) :
    Calls Try.prog 28 #[sv] w fun e w' => ∃ v, e = .returned v ∧ PairV w' v es ∧ Below w.heap.size w w' := by
  obtain ⟨i50, hi, hz0, hz1, hz2⟩ := info_parts info50
  have HI := Lib.hid (And.intro hi (And.intro hz0 (And.intro hz1 hz2)))
  clear hi hz0 hz1 hz2
  obtain ⟨sa, sc, rfl, hcells⟩ := hs
  have HCE := Lib.hid hcells
  have HL := Lib.hid hl
  clear hcells hl
  go_enter Try.func28, Try.ntmps28
  go_wp2_with fail
  go_loopg [3, 8] es.length (fun k v i wr => ∃ j : Nat, j + k = es.length ∧ i = .int .i64 (j : Int) ∧ wr.ownsRow w.heap.size 50 2 v j (ecells (es.take j)) ∧ Below w.heap.size w wr)
  case atStart => exact ⟨0, by omega, rfl, World.ownsRow_nil _ _ _ _, Below.refl _ _⟩
  case round =>
    obtain ⟨j, hjk, rfl, ho, hb⟩ := hrel
    have HO := Lib.hid ho
    have HB := Lib.hid hb
    clear ho hb
    have hw1 : IntKind.i64.wrap ((j : Int) + 1) = (j : Int) + 1 := by have := HL.out; rw [IntKind.wrap_i64]; omega
    by_cases hlt : j < es.length
    · have h1 : decide ((j : Int) < (es.length : Int)) = true := by simp; omega
      obtain ⟨⟨y1, y2⟩, hs⟩ : ∃ s, s = es[j] := ⟨_, rfl⟩
      have hs' : es[j]? = some (y1, y2) := by rw [List.getElem?_eq_getElem hlt, hs]
      obtain ⟨sb, so, rfl, hc0, hc1⟩ := HCE.out j _ hs'
      have hsb : sb < w.heap.size := World.block_lt_of_cell? w _ hc0
      have e0 : wr.cell? ⟨sb, so + j * 2, none⟩ = some (.int .i64 y1) := (HB.out.cell hsb).trans hc0
      have e1 : wr.cell? ⟨sb, so + j * 2 + 1, none⟩ = some (.int .i64 y2) := (HB.out.cell hsb).trans hc1
      have HS := Lib.hid hs'
      clear hc0 hc1 hs hs' hsb
      go_upto_region 5 with (fail)
      have hA : Below wr.heap.size wr (wr.alloc (.cells #[.int .i64 y1, .int .i64 y2] 52)) := (Below.refl _ wr).alloc (Nat.le_refl _) _
      have hbx := heap_alloc_last wr (.cells #[.int .i64 y1, .int .i64 y2] 52)
      have HOX := Lib.hid (own_below HO.out hA)
      have HBX := Lib.hid (HB.out.trans (hA.mono HB.out.size))
      generalize wr.heap.size = bx at hbx ⊢
      generalize wr.alloc (.cells #[.int .i64 y1, .int .i64 y2] 52) = X at hbx HOX HBX ⊢
      clear e0 e1 hA HO HB wr
      have s0 := cell_at (j := 0) hbx rfl
      have s1 := cell_at (j := 1) hbx rfl
      go_wp2_with (at_builtin; refine wpList_append_own _ rfl (.tmp 12) (.tmp 14) 48 rfl w.heap.size 50 i50 (.agg #[.int .i64 0, .int .i64 0]) 2 16 Try.underlying48 HI.out.1 HI.out.2.1 HI.out.2.2.1 HI.out.2.2.2 rfl (by decide) _ _ _ rfl (HOX.out.alloc _) ⟨X.heap.size, 0, none⟩ 1 1 [.int .i64 y1, .int .i64 y2] rfl rfl (pair_new _ _ _ _) (pair_one _ _) (by have := HL.out; unfold maxLen; omega) (by have := HL.out; omega) (by have := HBX.out.size; simp; omega) ?_)
      intro v2 w2 hown2 hgrow2 _
      have HO2 := Lib.hid hown2
      have HB2 := Lib.hid (below_grown (HBX.out.alloc HBX.out.size (.cells #[.int .i64 y1, .int .i64 y2] 50)) HOX.out (Nat.le_refl _) (Nat.le_refl _) hgrow2)
      clear hown2 hgrow2
      go_wp2_with fail
      go_roundg (gk - 1)
      case measure => omega
      case rel =>
        refine ⟨j + 1, by omega, rfl, ?_, HB2.out⟩
        have e1 : es.take (j + 1) = es.take j ++ [(y1, y2)] := by
          rw [List.take_add_one, HS.out]; rfl
        rw [e1, ecells_append]
        exact HO2.out
    · have h1 : decide ((j : Int) < (es.length : Int)) = false := by simp; omega
      obtain rfl : j = es.length := by omega
      go_wp2_with fail
      refine bodyPost_ret (results_tmp rfl _ _ _) rfl ?_
      have h := HO.out
      rw [List.take_length] at h
      exact ⟨_, rfl, .of_own h rfl, HB.out⟩
end Go.Proofs.Ytpkndcmgialgcaa
