/- A reference map held against a list of pairs.

The reference: all versions of maps.

What the versions tell is what the reference has.

The law's probes: is the hash fit, is the program awake. -/
import Derived.Test.YtpkndcmgialgcaaMTo
namespace Go.Proofs.Ytpkndcmgialgcaa
open Go.RowKit Go.Maps

theorem look_nth {es : List (Int × Int)} (ho : Once es) {i : Nat} {e : Int × Int} (hi : es[i]? = some e) : look es e.1 = some e.2 := (look_iff ho).2 (List.mem_of_getElem? hi)
theorem gm_look_ok {w : World} {mb : Nat} {es : List (Int × Int)} {k v : Int} (g : GM w mb es) (ho : Once es) (hw : Wf k) (hv : look es k = some v) :
    (Instr.lookup 39 (.map (some mb)) (.int .i64 k) true).run Try.prog w = .ok (.tuple #[.int .i64 v, .bool true]) w := by
  obtain ⟨D, h1, hd⟩ := g
  obtain ⟨u, ps, hrun, hu⟩ := h1.look_ok key2 Try.underlying39 (zero2 w) (plainElem_int (a := 0) Try.underlying2 (by decide)) (keyOf_int_mk Try.underlying2 hw)
  obtain ⟨c, rfl, hc, _⟩ := plainElem_int_inv Try.underlying2 hu
  simp only [Prod.mk.injEq] at hc
  have h2 : (D.atKey (kl k) _ : DataW Unit) = vl v := hd.at_ k v hv (.lit (.int .i64 0))
  have h3 := hc.1
  unfold kl vl at h2
  rw [h2] at h3
  have h4 : v = c := by simpa using h3
  have h5 : Maps.has D (.int .i64 k) = true := by
    have := hd.has k
    unfold kl at this
    rw [this, has_look ho, hv]
    rfl
  rw [hrun, h5, h4]

theorem plain_bool_inv {P : Program} {e : TypeId} (he : P.underlying e = some .bool) {v : Value} {z : DataW Unit × List MemPlace} (h : plainElem P e v = some z) : ∃ x, v = .bool x ∧ z = (.lit (.bool x), []) := by
  unfold plainElem at h
  rw [he] at h
  cases v <;> simp at h
  exact ⟨_, rfl, h.symm⟩
theorem zero4 (w : World) : (zeroValue 4).run Try.prog w = .ok (.bool false) w := by kernel_rfl
/-- block b is a set of keys that has what ks has -/
def SM (w : World) (b n : Nat) (es : List (Int × Int)) : Prop := ∃ D : DataW Unit, w.ownsMap Try.prog 2 (plainElem Try.prog 4) b n D ∧ ∀ k, Maps.has D (kl k) = Go.Proofs.Ytpkndcmgialgcaa.has es k
theorem sm_look {w : World} {b n : Nat} {es : List (Int × Int)} {k : Int} (g : SM w b n es) (hw : Wf k) (hv : has es k = false) :
    (Instr.lookup 123 (.map (some b)) (.int .i64 k) false).run Try.prog w = .ok (.bool false) w := by
  obtain ⟨D, h1, hd⟩ := g
  obtain ⟨u, ps, hrun, hu⟩ := h1.lookup key2 Try.underlying123 (zero4 w) (plainElem_bool Try.underlying4 false) (keyOf_int_mk Try.underlying2 hw)
  have h2 := hd k
  rw [hv] at h2
  have h3 : (D.atKey (.int .i64 k) (.lit (.bool false)) : DataW Unit) = .lit (.bool false) := atKey_of_not_has h2 _
  rw [h3] at hu
  obtain ⟨x, rfl, hx⟩ := plain_bool_inv Try.underlying4 hu
  have hx1 : x = false := by
    simp only [Prod.mk.injEq, DataW.lit.injEq, Lit.bool.injEq] at hx
    exact hx.1.symm
  rw [hrun, hx1]
theorem sm_push {w' : World} {b n : Nat} {es : List (Int × Int)} {e : Int × Int} {D : DataW Unit} (hD : ∀ k, Maps.has D (kl k) = Go.Proofs.Ytpkndcmgialgcaa.has es k) (hm : Maps.IsMap D) (h : w'.ownsMap Try.prog 2 (plainElem Try.prog 4) b (n + 1) (D.put (kl e.1) (.lit (.bool true)))) : SM w' b (n + 1) (es ++ [e]) := by
  refine ⟨_, h, fun k => ?_⟩
  by_cases e1 : k = e.1
  · subst e1
    rw [Maps.has_put_same hm (kl_key _)]
    simp [has]
  · rw [Maps.has_put_other (kl_ne e1), hD]
    simp [has, Ne.symm e1]
theorem has_take {es : List (Int × Int)} (ho : Once es) {j : Nat} {e : Int × Int} (hj : es[j]? = some e) : has (es.take j) e.1 = false := by
  cases hh : has (es.take j) e.1 with
  | false => rfl
  | true =>
    exfalso
    have hj' := List.getElem?_eq_some_iff.1 hj
    have e0 : es = es.take j ++ e :: es.drop (j + 1) := by
      have h := (List.take_append_drop j es).symm
      rw [List.drop_eq_getElem_cons hj'.1, hj'.2] at h
      exact h
    obtain ⟨x, hx, hxe⟩ := List.any_eq_true.1 hh
    have hxe : x.1 = e.1 := by simpa using hxe
    unfold Once at ho
    rw [e0] at ho
    first
      | (rw [List.map_append, List.nodup_append] at ho
         exact ho.2.2 x.1 (List.mem_map.2 ⟨x, hx, rfl⟩) e.1 (by simp) hxe)
      | (rw [List.pairwise_append] at ho
         exact ho.2.2 x hx e (by simp) hxe)

set_option maxRecDepth 100000 in
set_option maxHeartbeats 1600000 in
theorem samePairs_w (pv : Value) (es : List (Int × Int)) (mb : Nat) (w : World) (hp : PairV w pv es) (hg : GM w mb es) (ho : Once es) (hwf : ∀ e ∈ es, Wf e.1 ∧ Wf e.2) (hl : es.length ≤ 100000000) :
    Calls Try.prog 27 #[pv, .map (some mb)] w fun e w' => e = .returned (.bool true) ∧ Below w.heap.size w w' := by
  have hh : ∀ (z : Int) (w : World), (Instr.makeMap 123 (some (.int .i64 z))).run Try.prog w = .ok (.map (some w.heap.size)) (w.alloc (.map #[] 0)) := fun z w => by kernel_rfl
  obtain ⟨sa, sc, rfl, hcells⟩ := hp
  have HCE := Lib.hid hcells
  have HL := Lib.hid hl
  have HG := Lib.hid hg
  have HO := Lib.hid ho
  have HWF := Lib.hid hwf
  obtain ⟨D0, hD0, hd0⟩ := hg
  have HD0 := Lib.hid hD0
  have HSZ : Hid (Maps.size D0 = es.length) := hd0.size
  clear hcells hl ho hwf hD0 hd0
  go_enter Try.func27, Try.ntmps27
  go_upto_region 4 with (first | (at_len; refine wpList_len_own _ rfl _ 39 rfl 2 2 Try.underlying39 _ mb _ D0 rfl HD0.out ?_; rw [HSZ.out]) | go_in)
  have hA0 : Below w.heap.size w (w.alloc (.map #[] 0)) := (Below.refl _ _).alloc (Nat.le_refl _) _
  have HB0 := Lib.hid hA0
  have HSM : Hid (SM (w.alloc (.map #[] 0)) w.heap.size 0 []) := ⟨.map [], World.ownsMap_made _ _ _ _, fun k => rfl⟩
  clear hA0
  obtain ⟨sb, hsb⟩ : ∃ sb, sb = w.heap.size := ⟨_, rfl⟩
  have HSB := Lib.hid hsb
  rw [← hsb] at HSM ⊢
  clear hsb
  generalize w.alloc (.map #[] 0) = W at HB0 HSM ⊢
  go_wp2_with fail
  go_loopg [20] es.length (fun k i wr => ∃ j : Nat, j + k = es.length ∧ i = .int .i64 (j : Int) ∧ SM wr sb j (es.take j) ∧ Below w.heap.size w wr)
  case atStart => exact ⟨0, by omega, rfl, HSM.out, HB0.out⟩
  case round =>
    clear HSM HB0
    obtain ⟨j, hjk, rfl, hsm, hb⟩ := hrel
    have HS := Lib.hid hsm
    have HB := Lib.hid hb
    clear hsm hb
    have hw1 : IntKind.i64.wrap ((j : Int) + 1) = (j : Int) + 1 := by have := HL.out; rw [IntKind.wrap_i64]; omega
    by_cases hlt : j < es.length
    · have h1 : decide ((j : Int) < (es.length : Int)) = true := by simp; omega
      obtain ⟨⟨y1, y2⟩, hs⟩ : ∃ s, s = es[j] := ⟨_, rfl⟩
      have hs' : es[j]? = some (y1, y2) := by rw [List.getElem?_eq_getElem hlt, hs]
      obtain ⟨pb, so, rfl, hc0, hc1⟩ := HCE.out j _ hs'
      have hpb : pb < w.heap.size := World.block_lt_of_cell? w _ hc0
      have e0 : wr.cell? ⟨pb, so + j * 2, none⟩ = some (.int .i64 y1) := (HB.out.cell hpb).trans hc0
      have e1 : wr.cell? ⟨pb, so + j * 2 + 1, none⟩ = some (.int .i64 y2) := (HB.out.cell hpb).trans hc1
      have hwk : Wf y1 := (HWF.out _ (List.mem_of_getElem? hs')).1
      have hlook : look es y1 = some y2 := look_nth HO.out hs'
      have hnot : has (es.take j) y1 = false := has_take HO.out hs'
      have HNOT := Lib.hid hnot
      have HLOOK := Lib.hid hlook
      have HWK := Lib.hid hwk
      have HES := Lib.hid hs'
      clear hc0 hc1 hs hs' hpb hwk hlook hnot
      go_upto_region 7 with (fail)
      have hA : Below wr.heap.size wr (wr.alloc (.cells #[.int .i64 y1, .int .i64 y2] 50)) := (Below.refl _ wr).alloc (Nat.le_refl _) _
      have HX := Lib.hid (heap_alloc_last wr (.cells #[.int .i64 y1, .int .i64 y2] 50))
      have HS2 : Hid (SM (wr.alloc (.cells #[.int .i64 y1, .int .i64 y2] 50)) sb j (es.take j)) := by
        obtain ⟨D, g1, g2⟩ := HS.out
        exact ⟨D, g1.alloc _, g2⟩
      have HBX := Lib.hid (HB.out.trans (hA.mono HB.out.size))
      have hbs : sb < wr.heap.size := by obtain ⟨D, g1, g2⟩ := HS.out; exact g1.lt
      have HBS : Hid (sb < wr.heap.size) := hbs
      generalize wr.alloc (.cells #[.int .i64 y1, .int .i64 y2] 50) = X at HX HS2 HBX ⊢
      generalize wr.heap.size = bx at HX HBS ⊢
      clear e0 e1 hA HS HB wr hbs
      have s0 := cell_at (j := 0) HX.out rfl
      have s1 := cell_at (j := 1) HX.out rfl
      have k1 := gm_look_ok (HG.out.below HBX.out) HO.out HWK.out HLOOK.out
      have k2 := sm_look HS2.out HWK.out HNOT.out
      obtain ⟨D, g1, g2⟩ := HS2.out
      have G1 := Lib.hid g1
      have G2 := Lib.hid g2
      clear g1 g2
      go_wp2_with (first | (at_mapUpdate; refine wpList_mapUpdate_own _ rfl _ _ _ 123 rfl 2 4 key2 Try.underlying123 _ sb _ _ rfl G1.out (by have := HL.out; unfold maxLen; omega) _ _ _ rfl rfl (keyOf_int_mk Try.underlying2 HWK.out) _ [] (plainElem_bool Try.underlying4 true) ?_; intro w2 hout2 hg2; go_frame) | go_in)
      have hsbw := HSB.out
      go_roundg (gk - 1)
      case measure => omega
      case rel =>
        refine ⟨j + 1, by omega, by go_num, ?_, HBX.out.grown hg2 HBX.out.size (fun i hi => by cases hi; omega)⟩
        have e1 : es.take (j + 1) = es.take j ++ [(y1, y2)] := by rw [List.take_add_one, HES.out]; rfl
        rw [e1]
        exact sm_push (e := (y1, y2)) G2.out G1.out.isMap hout2
    · have h1 : decide ((j : Int) < (es.length : Int)) = false := by simp; omega
      obtain rfl : j = es.length := by omega
      go_wp2_with fail
      refine bodyPost_ret (results_tmp rfl _ _ _) rfl ?_
      exact ⟨rfl, HB.out⟩
end Go.Proofs.Ytpkndcmgialgcaa

namespace Go.Proofs.Ytpkndcmgialgcaa
open Go.RowKit Go.Maps

theorem GM.row {w A w' : World} {base size n b : Nat} {e : TypeId} {v : Value} {xs : List Value} {es : List (Int × Int)} (ho : w.ownsRow base e size v n xs) (hA : Below w.heap.size w A) (hg : A.grownBy w' v.ownBlock) (n : GM w b es) : GM w' b es := by
  refine (n.below hA).kept hg fun e1 => ?_
  obtain ⟨D, ⟨es', clock, hb, _⟩, _⟩ := n
  rcases ho.2 with ⟨rfl, _⟩ | ⟨g, cap, cur, rfl, _, h2, _⟩
  · cases e1
  · have e2 : b = g := by simpa [Value.ownBlock] using e1
    subst e2
    rw [h2] at hb
    cases hb

theorem info39 : (Try.prog.info? 39).map (fun i => (i.zero, i.size, i.bytes)) = some (some (.map none), 1, 8) := by kernel_rfl

/-- l lists reference maps that have what the versions have -/
def GVers (B : Nat) (vs : List (MS Int Int)) (l : Value) (wr : World) : Prop :=
  ∃ bs : List Value, wr.ownsRow B 39 1 l vs.length bs ∧ bs.length = vs.length ∧ ∀ (i : Nat) (r : Value), bs[i]? = some r → ∃ m b, vs[i]? = some m ∧ r = .map (some b) ∧ GM wr b m.es
theorem GVers.below {B : Nat} {vs : List (MS Int Int)} {l : Value} {w w' : World} (n : GVers B vs l w) (hb : Below w.heap.size w w') : GVers B vs l w' := by
  obtain ⟨ptrs, h1, h2, h3⟩ := n
  refine ⟨ptrs, own_below h1 hb, h2, fun i r hr => ?_⟩
  obtain ⟨m, b, h4, h5, h6⟩ := h3 i r hr
  exact ⟨m, b, h4, h5, h6.below hb⟩
theorem gvers_push {B b : Nat} {vs : List (MS Int Int)} {l l' : Value} {w A w1 : World} {ptrs : List Value} {m : MS Int Int} (ho : w.ownsRow B 39 1 l vs.length ptrs) (hpl : ptrs.length = vs.length) (hall : ∀ (i : Nat) (r : Value), ptrs[i]? = some r → ∃ m b, vs[i]? = some m ∧ r = .map (some b) ∧ GM w b m.es)
    (hA : Below w.heap.size w A) (hr : GM w b m.es) (hown : w1.ownsRow B 39 1 l' (vs.length + 1) (ptrs ++ [.map (some b)])) (hg : A.grownBy w1 l.ownBlock) : GVers B (vs ++ [m]) l' w1 := by
  refine ⟨ptrs ++ [.map (some b)], by simpa using hown, by simp [hpl], fun i q hq => ?_⟩
  rcases Nat.lt_or_ge i ptrs.length with h1 | h1
  · rw [List.getElem?_append_left h1] at hq
    obtain ⟨m', b', h2, h3, h4⟩ := hall i q hq
    exact ⟨m', b', by rw [List.getElem?_append_left (by omega)]; exact h2, h3, GM.row ho hA hg h4⟩
  · rw [List.getElem?_append_right h1] at hq
    have e1 : i - ptrs.length = 0 := by
      rcases Nat.eq_zero_or_pos (i - ptrs.length) with h2 | h2
      · exact h2
      · rw [List.getElem?_eq_none (by simp; omega)] at hq; cases hq
    rw [e1] at hq
    simp only [List.getElem?_cons_zero, Option.some.injEq] at hq
    subst hq
    exact ⟨m, b, by rw [List.getElem?_append_right (by omega), show i - vs.length = 0 by omega]; rfl, rfl, GM.row ho hA hg hr⟩

/-- a step that the reference lets through -/
def Asked (most n : Nat) (s : Stp) : Prop := 0 ≤ s.F ∧ s.F < n ∧ s.k ≤ 3 ∧ 0 ≤ s.C ∧ s.C ≤ most
theorem Asked.ok {most n : Nat} {s : Stp} (h : Asked most n s) (hm : most ≤ 100000) : s.ok n = true := by
  obtain ⟨h1, h2, h3, h4, h5⟩ := h
  simp only [Stp.ok, Bool.and_eq_true, Bool.or_eq_true, decide_eq_true_eq]
  exact ⟨h1, h2, h3, .inr ⟨h4, by omega⟩⟩
theorem gm_empty (w : World) : GM (w.alloc (.map #[] 0)) w.heap.size [] := ⟨.map [], World.ownsMap_made _ _ _ _, gd_empty⟩

/-- what MapVersions answers -/
def MVPost (h : Int → Nat) (steps : List Stp) (most all : Nat) (w : World) (e : Ending) (w' : World) : Prop := ∃ l ok, e = .returned (.tuple #[l, .bool ok]) ∧ Below w.heap.size w w' ∧
      (ok = true → GVers w.heap.size (versM h steps [MS.empty]) l w' ∧ (∀ m ∈ versM h steps [MS.empty], m.es.length ≤ all) ∧ ∀ (i : Nat) (s : Stp), steps[i]? = some s → Asked most (i + 1) s)

set_option maxRecDepth 100000 in
set_option maxHeartbeats 3200000 in
theorem mapVersions_w (h : Int → Nat) (sv : Value) (steps : List Stp) (most all : Nat) (w : World) (hs : StpV w sv steps) (hn : steps.length ≤ 500) (hm : most ≤ 100000) (ha : all ≤ 1000000) (hwf : ∀ s ∈ steps, Wf s.K ∧ Wf s.V) :
    Calls Try.prog 21 #[sv, .int .i64 (most : Int), .int .i64 (all : Int)] w (MVPost h steps most all w) := by
  obtain ⟨i39, hi, hz0, hz1, hz2⟩ := info_parts info39
  have HI := Lib.hid (And.intro hi (And.intro hz0 (And.intro hz1 hz2)))
  clear hi hz0 hz1 hz2
  have hmm := @run_makeMap Try.prog
  have HS := Lib.hid hs
  have HN := Lib.hid hn
  have HMO := Lib.hid hm
  have HA := Lib.hid ha
  have HWF := Lib.hid hwf
  clear hs hn hm ha hwf
  go_enter Try.func21, Try.ntmps21
  go_upto_region 2 with (fail)
  have hA0 : Below w.heap.size w (w.alloc (.map #[] 0)) := (Below.refl _ _).alloc (Nat.le_refl _) _
  have hA1 : Below (w.alloc (.map #[] 0)).heap.size (w.alloc (.map #[] 0)) ((w.alloc (.map #[] 0)).alloc (.cells #[.map (some w.heap.size)] 39)) := (Below.refl _ _).alloc (Nat.le_refl _) _
  have HV : Hid (GVers w.heap.size (versM h (steps.take 0) [MS.empty]) (.slice (some ⟨(w.alloc (.map #[] 0)).heap.size, 0, none⟩) 1 1) ((w.alloc (.map #[] 0)).alloc (.cells #[.map (some w.heap.size)] 39))) := by
    refine ⟨[.map (some w.heap.size)], builtE _ _ 39 hA0.size, rfl, fun i r hr => ?_⟩
    rcases i with _ | i
    · simp only [List.getElem?_cons_zero, Option.some.injEq] at hr
      subst hr
      exact ⟨MS.empty, _, rfl, rfl, (gm_empty w).below hA1⟩
    · simp at hr
  have HB3 := Lib.hid (hA0.trans (hA1.mono hA0.size))
  clear hA0 hA1
  have e0 : (w.alloc (.map #[] 0)).heap.size = w.heap.size + 1 := size_alloc _ _
  rw [e0] at HV
  clear e0
  generalize Value.slice (some ⟨w.heap.size + 1, 0, none⟩) 1 1 = l0 at HV ⊢
  generalize (w.alloc (.map #[] 0)).alloc (.cells #[.map (some w.heap.size)] 39) = W2 at HV HB3 ⊢
  obtain ⟨sa, sc, rfl, hcells⟩ := HS.out
  have HCE := Lib.hid hcells
  clear hcells HS
  go_wp2_with fail
  go_loopg [6, 8, 16] steps.length (fun k l tot i wr => ∃ j T : Nat, j + k = steps.length ∧ i = .int .i64 (j : Int) ∧ tot = .int .i64 (T : Int) ∧ T ≤ all ∧ GVers w.heap.size (versM h (steps.take j) [MS.empty]) l wr ∧ (∀ m ∈ versM h (steps.take j) [MS.empty], m.es.length ≤ T) ∧ Below w.heap.size w wr ∧ ∀ (i : Nat) (s : Stp), (steps.take j)[i]? = some s → Asked most (i + 1) s)
  case atStart => exact ⟨0, 0, by omega, rfl, rfl, Nat.zero_le _, HV.out, by simp [versM, MS.empty], HB3.out, by simp⟩
  case round =>
    clear HV HB3
    obtain ⟨j, T, hjk, rfl, rfl, hT, hv, hvm, hbw, hask⟩ := hrel
    have HT := Lib.hid hT
    have HVM := Lib.hid hvm
    have HASK := Lib.hid hask
    have HV := Lib.hid hv
    have HB := Lib.hid hbw
    clear hv hbw hT hvm hask
    have hw1 : IntKind.i64.wrap ((j : Int) + 1) = (j : Int) + 1 := by have := HN.out; rw [IntKind.wrap_i64]; omega
    by_cases hlt : j < steps.length
    · have h1 : decide ((j : Int) < (steps.length : Int)) = true := by simp; omega
      obtain ⟨⟨sk, sF, sK, sV, sC⟩, hs⟩ : ∃ s, s = steps[j] := ⟨_, rfl⟩
      have hs' : steps[j]? = some ⟨sk, sF, sK, sV, sC⟩ := by rw [List.getElem?_eq_getElem hlt, hs]
      obtain ⟨sb, so, rfl, hcells⟩ := HCE.out j _ hs'
      have hsb : sb < w.heap.size := World.block_lt_of_cell? w _ (hcells 0 _ rfl)
      have e0 : wr.cell? ⟨sb, so + j * 5, none⟩ = some (.int .u8 (sk : Int)) := (HB.out.cell hsb).trans (hcells 0 _ rfl)
      have e1 : wr.cell? ⟨sb, so + j * 5 + 1, none⟩ = some (.int .i64 sF) := (HB.out.cell hsb).trans (hcells 1 _ rfl)
      have e2 : wr.cell? ⟨sb, so + j * 5 + 2, none⟩ = some (.int .i64 sK) := (HB.out.cell hsb).trans (hcells 2 _ rfl)
      have e3 : wr.cell? ⟨sb, so + j * 5 + 3, none⟩ = some (.int .i64 sV) := (HB.out.cell hsb).trans (hcells 3 _ rfl)
      have e4 : wr.cell? ⟨sb, so + j * 5 + 4, none⟩ = some (.int .i64 sC) := (HB.out.cell hsb).trans (hcells 4 _ rfl)
      have HST := Lib.hid hs'
      have hwkv := HWF.out _ (List.mem_of_getElem? hs')
      have HWKV := Lib.hid hwkv
      clear hs hs' hcells hwkv
      go_upto_region 6 with (fail)
      have hA : Below wr.heap.size wr (wr.alloc (.cells #[.int .u8 (sk : Int), .int .i64 sF, .int .i64 sK, .int .i64 sV, .int .i64 sC] 41)) := (Below.refl _ wr).alloc (Nat.le_refl _) _
      have HX := Lib.hid (heap_alloc_last wr (.cells #[.int .u8 (sk : Int), .int .i64 sF, .int .i64 sK, .int .i64 sV, .int .i64 sC] 41))
      have HV2 := Lib.hid (HV.out.below hA)
      have HB2 := Lib.hid (HB.out.trans (hA.mono HB.out.size))
      generalize wr.alloc (.cells #[.int .u8 (sk : Int), .int .i64 sF, .int .i64 sK, .int .i64 sV, .int .i64 sC] 41) = X at HX HV2 HB2 ⊢
      generalize wr.heap.size = bx at HX ⊢
      clear e0 e1 e2 e3 e4 hA HV HB wr
      obtain ⟨vs, hR⟩ : ∃ vs, vs = versM h (steps.take j) [MS.empty] := ⟨_, rfl⟩
      have hvl : vs.length = j + 1 := by
        rw [hR, versM_len, List.length_take, Nat.min_eq_left (Nat.le_of_lt hlt)]; rfl
      have hok : AllOk (j + 1) vs := by
        have h9 := versM_ok (h := h) (steps.take j) 1 [MS.empty] (fun m hm => by
          simp only [List.mem_singleton] at hm
          subst hm
          exact ⟨by simp [MS.empty, Once], by simp [MS.empty]⟩)
        rw [List.length_take, Nat.min_eq_left (Nat.le_of_lt hlt), ← hR] at h9
        exact h9
      have hV9 := HV2.out
      rw [← hR] at hV9 HVM
      obtain ⟨ptrs, hoL, hpl, hpI⟩ := hV9
      have HR := Lib.hid hR
      have HVL := Lib.hid hvl
      have HOK := Lib.hid hok
      have HOL := Lib.hid hoL
      have HPL := Lib.hid hpl
      have HPI := Lib.hid hpI
      have hll : ∃ g lcap, u6 = .slice (some ⟨g, 0, none⟩) vs.length lcap := by
        rcases hoL.2 with ⟨_, h0⟩ | ⟨g, lcap, cur, h9, _⟩
        · omega
        · exact ⟨g, lcap, h9⟩
      obtain ⟨g, lcap, rfl⟩ := hll
      clear hR hvl hok hoL hpl hpI HV2
      have s0 := cell_at (j := 0) HX.out rfl
      have s1 := cell_at (j := 1) HX.out rfl
      have s4 := cell_at (j := 4) HX.out rfl
      go_cut [45] from 20 to 45 (fun v wc => ∃ b, v = .bool b ∧ (b = false → Asked most vs.length ⟨sk, sF, sK, sV, sC⟩) ∧ X = wc)
      case first =>
        clear HI HCE HN HMO HA HWF HT HVM HASK HX HB2 HR HVL HOK HOL HPL HPI HST HWKV
        by_cases c1 : 3 < sk
        · have d1 : decide (3 < (sk : Int)) = true := by simp; omega
          go_wp2_with fail
          go_meet
          case rel => exact ⟨true, rfl, nofun, rfl⟩
        · have d1 : decide (3 < (sk : Int)) = false := by simp; omega
          by_cases c2 : sF < 0
          · have d2 : decide (sF < 0) = true := by simp [c2]
            go_wp2_with fail
            go_meet
            case rel => exact ⟨true, rfl, nofun, rfl⟩
          · have d2 : decide (sF < 0) = false := by simp; omega
            by_cases c3 : (vs.length : Int) ≤ sF
            · have d3 : decide ((vs.length : Int) ≤ sF) = true := by simp [c3]
              go_wp2_with fail
              go_meet
              case rel => exact ⟨true, rfl, nofun, rfl⟩
            · have d3 : decide ((vs.length : Int) ≤ sF) = false := by simp; omega
              by_cases c5 : sC < 0
              · have d5 : decide (sC < 0) = true := by simp [c5]
                go_wp2_with fail
                go_meet
                case rel => exact ⟨true, rfl, nofun, rfl⟩
              · have d5 : decide (sC < 0) = false := by simp; omega
                by_cases c6 : (most : Int) < sC
                · have d6 : decide ((most : Int) < sC) = true := by simp [c6]
                  go_wp2_with fail
                  go_meet
                  case rel => exact ⟨true, rfl, nofun, rfl⟩
                · have d6 : decide ((most : Int) < sC) = false := by simp; omega
                  go_wp2_with fail
                  go_meet
                  case rel => exact ⟨false, rfl, fun _ => ⟨by show 0 ≤ sF; omega, by show sF < _; omega, by show sk ≤ 3; omega, by show 0 ≤ sC; omega, by show sC ≤ _; omega⟩, rfl⟩
      case rest =>
        obtain ⟨b, rfl, hask, rfl⟩ := hcut
        cases b with
        | true =>
          clear hask
          go_wp2_with fail
          refine bodyPost_ret (results_tmp2 rfl _ _ _) rfl ?_
          exact ⟨_, false, rfl, HB2.out, nofun⟩
        | false =>
          have HAS := Lib.hid (hask rfl)
          clear hask
          obtain ⟨f, rfl⟩ : ∃ f : Nat, sF = f := ⟨sF.toNat, by have := HAS.out.1; simp only at this; omega⟩
          have hf : f < vs.length := by have := HAS.out.2.1; simp only at this; omega
          obtain ⟨r, hr⟩ : ∃ r, ptrs[f]? = some r := ⟨ptrs[f]'(by rw [HPL.out]; exact hf), List.getElem?_eq_getElem _⟩
          obtain ⟨m, mb, hm, rfl, hgm⟩ := HPI.out f r hr
          have hcell : X.cell? ⟨g, f, none⟩ = some (.map (some mb)) := own_cell HOL.out hr
          obtain ⟨hon, hml⟩ := HOK.out m (List.mem_of_getElem? hm)
          have hml2 : m.es.length < 60000000 := by have := HN.out; omega
          have HDO : Hid (Calls Try.prog 53 #[.map (some mb), .agg #[.int .u8 (sk : Int), .int .i64 (f : Int), .int .i64 sK, .int .i64 sV, .int .i64 sC]] X.drew _) :=
            mapDo_w h ⟨sk, (f : Int), sK, sV, sC⟩ m mb X.drew (hgm.below (Below.refl _ X).drew) hon hml2 HAS.out.2.2.1 HAS.out.2.2.2.1 (by have h1 := HAS.out.2.2.2.2; have h2 := HMO.out; simp only at h1 ⊢; omega) HWKV.out.1 HWKV.out.2
          have hmk : Stp.make h ⟨sk, (f : Int), sK, sV, sC⟩ vs = Stp.act h ⟨sk, (f : Int), sK, sV, sC⟩ m := by
            unfold Stp.make
            rw [Asked.ok HAS.out HMO.out, if_pos rfl]
            congr 1
            show vs.getD ((f : Int)).toNat MS.empty = m
            rw [Int.toNat_natCast, List.getD_eq_getElem?_getD, hm]
            rfl
          have HMK := Lib.hid hmk
          have hf' : (f : Int) < (vs.length : Int) := by omega
          have s2 := cell_at (j := 2) HX.out rfl
          have s3 := cell_at (j := 3) HX.out rfl
          clear hr hm hgm hon hml hml2 hmk
          go_upto_region 8 with (fail)
          refine region_tail 6 (by kernel_rfl) (by kernel_rfl) ?_
          simp only [List.take_succ_cons, List.take_zero, List.drop_succ_cons, List.drop_zero]
          repeat still_step
          refine wpStill_nil ?_
          go_wp2_with fail
          refine HDO.out.mono ?_
          rintro e w3 ⟨b3, rfl, hg3, hlb3, hb3⟩
          have hb3' : Below X.heap.size X w3 := (Below.refl _ X).drew.trans hb3
          have HG3 := Lib.hid hg3
          have HY3 := Lib.hid hb3'
          have HB3 := Lib.hid (HB2.out.trans (hb3'.mono HB2.out.size))
          clear hg3 hlb3 hb3 hb3' s0 s1 s2 s3 s4 hcell HDO
          obtain ⟨m2, hm2⟩ : ∃ m2, m2 = Stp.act h ⟨sk, (f : Int), sK, sV, sC⟩ m := ⟨_, rfl⟩
          have HM2 := Lib.hid hm2
          rw [← hm2] at HMK HG3
          clear hm2
          obtain ⟨D3, hD3, hd3⟩ := HG3.out
          have HD3 := Lib.hid hD3
          have HL3 : Hid (Maps.size D3 = m2.es.length) := hd3.size
          have hm2l : m2.es.length ≤ 100000 * 502 := by
            have h9 := make_ok (h := h) (s := ⟨sk, (f : Int), sK, sV, sC⟩) HOK.out
            rw [HMK.out] at h9
            have := (h9 m2 (by simp)).2
            have := HN.out
            omega
          obtain ⟨L, hL⟩ : ∃ L, L = m2.es.length := ⟨_, rfl⟩
          rw [← hL] at HL3 hm2l
          obtain ⟨T', hT'⟩ : ∃ T' : Nat, T' = T + L := ⟨_, rfl⟩
          have hwT : IntKind.i64.wrap ((T : Int) + (L : Int)) = (T' : Int) := by have := HT.out; have := HA.out; rw [IntKind.wrap_i64, hT']; omega
          have HTT := Lib.hid hT'
          have HLL := Lib.hid hL
          clear hD3 hd3 hm2l hT' hL
          by_cases hall : all < T'
          · have h2 : decide ((all : Int) < (T' : Int)) = true := by simp; omega
            go_wp2_with (first | (at_len; refine wpList_len_own _ rfl _ 39 rfl 2 2 Try.underlying39 _ b3 _ D3 rfl HD3.out ?_; rw [HL3.out]) | go_in)
            refine bodyPost_ret (results_tmp2 rfl _ _ _) rfl ?_
            exact ⟨_, false, rfl, HB3.out, nofun⟩
          · have h2 : decide ((all : Int) < (T' : Int)) = false := by simp; omega
            have HO3 := Lib.hid (own_below HOL.out HY3.out)
            go_wp2_with (first | (at_len; refine wpList_len_own _ rfl _ 39 rfl 2 2 Try.underlying39 _ b3 _ D3 rfl HD3.out ?_; rw [HL3.out]) | (at_builtin; refine wpList_append_own _ rfl (.tmp 60) (.tmp 62) 28 rfl w.heap.size 39 i39 (.map none) 1 8 Try.underlying28 HI.out.1 HI.out.2.1 HI.out.2.2.1 HI.out.2.2.2 rfl (by decide) _ _ _ rfl (HO3.out.alloc _) ⟨w3.heap.size, 0, none⟩ 1 1 [.map (some b3)] rfl rfl (new_cell _ _ _) (one_oneCell rfl) (by have := HVL.out; have := HN.out; unfold maxLen; omega) (by have := HVL.out; have := HN.out; omega) (by have := HB3.out.size; rw [size_alloc]; omega) ?_) | go_in)
            intro l' w6 hown6 hgrow6 _
            have hA : Below w3.heap.size w3 (w3.alloc (.cells #[.map (some b3)] 39)) := (Below.refl _ _).alloc (Nat.le_refl _) _
            have HB6 := Lib.hid (below_grown (HB3.out.alloc HB3.out.size (.cells #[.map (some b3)] 39)) HO3.out (Nat.le_refl _) (Nat.le_refl _) hgrow6)
            have HV6 : Hid (GVers w.heap.size (vs ++ [m2]) l' w6) :=
              gvers_push HO3.out HPL.out (fun i r hr => by
                obtain ⟨m, b, h8, h9, h10⟩ := HPI.out i r hr
                exact ⟨m, b, h8, h9, h10.below HY3.out⟩) hA HG3.out hown6 hgrow6
            clear hown6 hgrow6 hA
            go_wp2_with fail
            go_roundg (gk - 1)
            case measure => omega
            case rel =>
              have e1 : steps.take (j + 1) = steps.take j ++ [⟨sk, (f : Int), sK, sV, sC⟩] := by rw [List.take_add_one, HST.out]; rfl
              have hTT := HTT.out
              refine ⟨j + 1, T', by omega, rfl, rfl, by omega, ?_, ?_, HB6.out, ?_⟩
              · rw [e1, versM_snoc, ← HR.out, HMK.out]
                exact HV6.out
              · rw [e1, versM_snoc, ← HR.out, HMK.out]
                intro m' hm'
                rcases List.mem_append.1 hm' with h8 | h8
                · have := HVM.out m' h8
                  omega
                · simp only [List.mem_singleton] at h8
                  subst h8
                  have := HLL.out
                  omega
              · intro i s hi
                rw [e1] at hi
                have htl : (steps.take j).length = j := by rw [List.length_take, Nat.min_eq_left (Nat.le_of_lt hlt)]
                rcases Nat.lt_or_ge i j with h8 | h8
                · rw [List.getElem?_append_left (by omega)] at hi
                  exact HASK.out i s hi
                · rw [List.getElem?_append_right (by omega)] at hi
                  rcases Nat.eq_zero_or_pos (i - (steps.take j).length) with h9 | h9
                  · rw [h9] at hi
                    simp only [List.getElem?_cons_zero, Option.some.injEq] at hi
                    subst hi
                    have h10 := HAS.out
                    rw [HVL.out] at h10
                    have : i = j := by omega
                    subst this
                    exact h10
                  · rw [List.getElem?_eq_none (by simp; omega)] at hi; cases hi
    · have h1 : decide ((j : Int) < (steps.length : Int)) = false := by simp; omega
      obtain rfl : j = steps.length := by omega
      go_wp2_with fail
      have hv := HV.out
      have hvm := HVM.out
      have hask := HASK.out
      have hT := HT.out
      rw [List.take_length] at hv hvm hask
      refine bodyPost_ret (results_tmp2 rfl _ _ _) rfl ?_
      exact ⟨_, true, rfl, HB.out, fun _ => ⟨hv, fun m hm => by have := hvm m hm; omega, hask⟩⟩
end Go.Proofs.Ytpkndcmgialgcaa

namespace Go.Proofs.Ytpkndcmgialgcaa
open Go.RowKit Go.Maps

theorem own_cells {w : World} {B s g cap n i : Nat} {e : TypeId} {cs : List Value} {u : Value} (h : w.ownsRow B e s (.slice (some ⟨g, 0, none⟩) n cap) n cs) (hu : cs[i]? = some u) : w.cell? ⟨g, i, none⟩ = some u := by
  have := h.cells (g := g) rfl i u hu
  rwa [Addr.add_lit, Nat.zero_add] at this
theorem own_shape {w : World} {B s n : Nat} {e : TypeId} {cs : List Value} {v : Value} (h : w.ownsRow B e s v n cs) (hn : n ≠ 0) : ∃ g cap, v = .slice (some ⟨g, 0, none⟩) n cap := by
  rcases h.2 with ⟨_, h0⟩ | ⟨g, cap, cur, h9, _⟩
  · exact absurd h0 hn
  · exact ⟨g, cap, h9⟩
def WfAll (es : List (Int × Int)) : Prop := ∀ e ∈ es, Wf e.1 ∧ Wf e.2

set_option maxRecDepth 100000 in
set_option maxHeartbeats 1600000 in
theorem mapSame_w (vs : List (MS Int Int)) (v l : Value) (B B' : Nat) (w : World) (hv : Seens w B v vs) (hg : GVers B' vs l w) (hn : vs.length ≠ 0) (hn2 : vs.length ≤ 100000)
    (ho : ∀ m ∈ vs, Once m.es ∧ WfAll m.es ∧ m.es.length ≤ 100000000) :
    Calls Try.prog 22 #[v, l] w fun e w' => e = .returned (.bool true) ∧ Below w.heap.size w w' := by
  obtain ⟨sls, q1, q2, q3⟩ := hv
  obtain ⟨bs, q4, q5, q6⟩ := hg
  obtain ⟨g1, c1, rfl⟩ := own_shape q2 hn
  obtain ⟨g2, c2, rfl⟩ := own_shape q4 hn
  have Q1 := Lib.hid q1
  have Q2 := Lib.hid q2
  have Q3 := Lib.hid q3
  have Q4 := Lib.hid q4
  have Q5 := Lib.hid q5
  have Q6 := Lib.hid q6
  have HO := Lib.hid ho
  have HN2 := Lib.hid hn2
  clear q1 q2 q3 q4 q5 q6 ho hn hn2
  go_enter Try.func22, Try.ntmps22
  go_wp2_with fail
  go_loopg [14] vs.length (fun k i wr => ∃ j : Nat, j + k = vs.length ∧ i = .int .i64 (j : Int) ∧ Below w.heap.size w wr)
  case atStart => exact ⟨0, by omega, rfl, Below.refl _ _⟩
  case round =>
    obtain ⟨j, hjk, rfl, hb⟩ := hrel
    have HB := Lib.hid hb
    clear hb
    have hw1 : IntKind.i64.wrap ((j : Int) + 1) = (j : Int) + 1 := by have := HN2.out; rw [IntKind.wrap_i64]; omega
    by_cases hlt : j < vs.length
    · have h1 : decide ((j : Int) < (vs.length : Int)) = true := by simp; omega
      have h2 : (j : Int) < (vs.length : Int) := by omega
      obtain ⟨sl, hsl⟩ : ∃ r, sls[j]? = some r := ⟨sls[j]'(by rw [Q1.out]; exact hlt), List.getElem?_eq_getElem _⟩
      obtain ⟨r, hr⟩ : ∃ r, bs[j]? = some r := ⟨bs[j]'(by rw [Q5.out]; exact hlt), List.getElem?_eq_getElem _⟩
      obtain ⟨m, hm, hseen⟩ := Q3.out j sl hsl
      obtain ⟨m', mb, hm', rfl, hgm⟩ := Q6.out j r hr
      rw [hm] at hm'
      cases hm'
      obtain ⟨o1, o2, o3⟩ := HO.out m (List.mem_of_getElem? hm)
      obtain ⟨t1, t2⟩ := scells_at hm hsl
      have e0 := own_cells (own_below Q2.out HB.out) t1
      have e1 := own_cells (own_below Q2.out HB.out) t2
      have hseen2 := (PairV.of_seen hseen).below HB.out
      obtain ⟨pa, pc, rfl, hpair⟩ := hseen2
      have HPAIR : Hid (PairV wr (.slice pa m.es.length pc) m.es) := ⟨pa, pc, rfl, hpair⟩
      have HGM := Lib.hid (hgm.below HB.out)
      have HCM : Hid (wr.cell? ⟨g2, j, none⟩ = some (.map (some mb))) := own_cell (own_below Q4.out HB.out) hr
      have O1 := Lib.hid o1
      have O2 := Lib.hid o2
      have O3 := Lib.hid o3
      clear hsl hr hm hseen hgm o1 o2 o3 t1 t2 hpair
      go_upto_region 6 with (fail)
      have hA : Below wr.heap.size wr (wr.alloc (.cells #[.int .i64 (m.es.length : Nat), .slice pa m.es.length pc] 46)) := (Below.refl _ wr).alloc (Nat.le_refl _) _
      have HX := Lib.hid (heap_alloc_last wr (.cells #[.int .i64 (m.es.length : Nat), .slice pa m.es.length pc] 46))
      have HBX := Lib.hid (HB.out.trans (hA.mono HB.out.size))
      have HP2 := Lib.hid (HPAIR.out.below hA)
      have HG2 := Lib.hid (HGM.out.below hA)
      have HC2 : Hid ((wr.alloc (.cells #[.int .i64 (m.es.length : Nat), .slice pa m.es.length pc] 46)).cell? ⟨g2, j, none⟩ = some (.map (some mb))) := (hA.cell (World.block_lt_of_cell? _ _ HCM.out)).trans HCM.out
      have HE0 := Lib.hid ((hA.cell (World.block_lt_of_cell? _ _ e0)).trans e0)
      clear HB HPAIR HGM HCM e0 e1 HE0
      generalize wr.alloc (.cells #[.int .i64 (m.es.length : Nat), .slice pa m.es.length pc] 46) = X at HX HBX HP2 HG2 HC2 ⊢
      generalize wr.heap.size = bx at HX ⊢
      clear hA wr
      have HR0 : Hid (Below X.heap.size X X.drew) := (Below.refl _ X).drew
      have HF : ∀ W, Below X.heap.size X W → ∀ ty, (Builtin.len_ #[39] ty #[.map (some mb)]).run Try.prog W = .ok (.int .i64 (m.es.length : Nat)) W := fun W hR ty => by
        obtain ⟨D, g1, g2⟩ := HG2.out.below hR
        rw [g1.len Try.underlying39 ty, g2.size]
      have HFF := Lib.hid HF
      clear HF
      have HX0 : Hid (∀ W, Below X.heap.size X W → W.cell? ⟨bx, 0, none⟩ = some (.int .i64 (m.es.length : Nat))) := fun W hR => cell_at (j := 0) (below_at hR HX.out) rfl
      have HX1 : Hid (∀ W, Below X.heap.size X W → W.cell? ⟨bx, 1, none⟩ = some (.slice pa m.es.length pc)) := fun W hR => cell_at (j := 1) (below_at hR HX.out) rfl
      have HX2 : Hid (∀ W, Below X.heap.size X W → W.cell? ⟨g2, j, none⟩ = some (.map (some mb))) := fun W hR => (hR.cell (World.block_lt_of_cell? _ _ HC2.out)).trans HC2.out
      refine region_segsR (fun W => Below X.heap.size X W) [([0, 1, 2, 3, 4, 5, 6, 7, 8, 9, 10, 12, 13, 14, 15], [11]), ([], [16]), ([17], [18])] (by kernel_rfl) (by intro dst v c a w h; cases dst <;> exact h) (by kernel_rfl) HR0.out ?_
      refine r_segs ?_
      simp only [opsOf, List.getElem?_toArray, List.getElem?_cons_succ, List.getElem?_cons_zero]
      repeat (refine r_read ?_ (by kernel_rfl) ?_ (fun K hK => ?_); rotate_left 1; (intro W hR; have x0 := HX0.out W hR; have x1 := HX1.out W hR; have x2 := HX2.out W hR; have x3 := HFF.out W hR; clear hR; go_simp; try with_reducible rfl); go_simp; refine hK _ ?_; clear hK K)
      refine r_nil1 ?_
      refine r_op rfl (fun K hK => ?_)
      go_simp
      refine (pairsOf_w _ m.es _ (HP2.out.below HR0.out) O3.out).mono ?_
      rintro e w2 ⟨pv, rfl, hpv, hb2⟩
      have HPV := Lib.hid hpv
      have HB2 : Hid (Below X.heap.size X w2) := HR0.out.trans (hb2.mono HR0.out.size)
      obtain ⟨pa2, pc2, rfl, _⟩ := hpv
      clear hb2
      refine hK _ _ HB2.out ?_
      clear hK K
      refine r_segs ?_
      simp only [opsOf]
      refine r_nil1 ?_
      refine r_op rfl (fun K hK => ?_)
      go_simp
      refine (samePairs_w _ m.es mb _ HPV.out (HG2.out.below HB2.out) O1.out O2.out O3.out).mono ?_
      rintro e w3 ⟨rfl, hb3⟩
      have HB3 : Hid (Below X.heap.size X w3) := HB2.out.trans (hb3.mono HB2.out.size)
      clear hb3
      refine hK _ _ HB3.out ?_
      clear hK K
      refine r_segs ?_
      simp only [opsOf, List.getElem?_toArray, List.getElem?_cons_succ, List.getElem?_cons_zero]
      repeat (refine r_read ?_ (by kernel_rfl) ?_ (fun K hK => ?_); rotate_left 1; (intro W hR; clear hR; go_simp; try with_reducible rfl); go_simp; refine hK _ ?_; clear hK K)
      refine r_nil1 ?_
      refine r_op rfl (fun K hK => ?_)
      go_simp
      refine hK _ _ HB3.out ?_
      clear hK K
      refine r_end ?_
      go_wp2_with fail
      go_roundg (gk - 1)
      case measure => omega
      case rel => exact ⟨j + 1, by omega, rfl, HBX.out.trans (HB3.out.mono HBX.out.size)⟩
    · have h1 : decide ((j : Int) < (vs.length : Int)) = false := by simp; omega
      obtain rfl : j = vs.length := by omega
      go_wp2_with fail
      refine bodyPost_ret (results_tmp rfl _ _ _) rfl ?_
      exact ⟨rfl, HB.out⟩
end Go.Proofs.Ytpkndcmgialgcaa

namespace Go.Proofs.Ytpkndcmgialgcaa
open Go.RowKit Go.Maps

/-- the hash of a hasher as a number -/
def hn (mo mu sh : Int) (k : Int) : Nat := (hs mo mu sh k).toNat
theorem hash_is {mo mu sh : Int} (h0 : ¬ mo = 0) (hs0 : 0 ≤ sh) (hs1 : sh < 32) : HashIs mo mu sh (hn mo mu sh) := by
  have hb : ∀ k, 0 ≤ hs mo mu sh k ∧ hs mo mu sh k < 4294967296 := fun k => by
    unfold hs
    exact ⟨Int.emod_nonneg _ (by decide), Int.emod_lt_of_pos _ (by decide)⟩
  refine ⟨fun k => by have := hb k; unfold hn; omega, fun a w => ?_⟩
  have e1 : ((hn mo mu sh a : Nat) : Int) = hs mo mu sh a := by have := hb a; unfold hn; omega
  rw [e1]
  exact hash_w mo mu sh a w h0 hs0 hs1

set_option maxRecDepth 100000 in
set_option maxHeartbeats 400000 in
theorem hashRight_w (mo mu sh : Int) (w : World) (r : Bool) (hr : r = (decide (0 < mo) && decide (sh < 32))) :
    Calls Try.prog 19 #[av mo mu sh] w fun e w' => e = .returned (.bool r) ∧ Below w.heap.size w w' := by
  have hb : Below w.heap.size w (w.alloc (.cells #[.int .u32 mo, .int .u32 mu, .int .u8 sh] 24)) := (Below.refl _ _).alloc (Nat.le_refl _) _
  have HB := Lib.hid hb
  have HR := Lib.hid hr
  have HX := Lib.hid (heap_alloc_last w (.cells #[.int .u32 mo, .int .u32 mu, .int .u8 sh] 24))
  clear hb hr
  unfold av
  go_enter Try.func19, Try.ntmps19
  go_upto_region 1 with (fail)
  generalize w.alloc (.cells #[.int .u32 mo, .int .u32 mu, .int .u8 sh] 24) = X at HB HX ⊢
  obtain ⟨bx, hbx⟩ : ∃ bx, bx = w.heap.size := ⟨_, rfl⟩
  rw [← hbx] at HX ⊢
  clear hbx
  have s0 := cell_at (j := 0) HX.out rfl
  have s2 := cell_at (j := 2) HX.out rfl
  by_cases c1 : 0 < mo
  · have d1 : decide (0 < mo) = true := by simp [c1]
    obtain ⟨d, hd⟩ : ∃ d, d = decide (sh < 32) := ⟨_, rfl⟩
    have HD := Lib.hid hd
    cases d with
    | true =>
      have d2 : decide (sh < 32) = true := hd.symm
      have hr : r = true := by rw [HR.out, d1, d2]; rfl
      subst hr
      clear hd
      go_wp2_with fail
      refine bodyPost_ret (results_tmp rfl _ _ _) rfl ?_
      exact ⟨rfl, HB.out⟩
    | false =>
      have d2 : decide (sh < 32) = false := hd.symm
      have hr : r = false := by rw [HR.out, d1, d2]; rfl
      subst hr
      clear hd
      go_wp2_with fail
      refine bodyPost_ret (results_tmp rfl _ _ _) rfl ?_
      exact ⟨rfl, HB.out⟩
  · have d1 : decide (0 < mo) = false := by simp; omega
    have hr : r = false := by rw [HR.out, d1]; rfl
    subst hr
    go_wp2_with fail
    refine bodyPost_ret (results_tmp rfl _ _ _) rfl ?_
    exact ⟨rfl, HB.out⟩

theorem awake_vs (h : Int → Nat) : versM h [⟨0, 0, 4, 9, 0⟩] [MS.empty] = [MS.empty, ⟨false, [(4, 9)]⟩] := rfl

set_option maxRecDepth 100000 in
set_option maxHeartbeats 1600000 in
theorem awake_w (w : World) : Calls Try.prog 20 #[] w fun e w' => e = .returned (.bool true) ∧ Below w.heap.size w w' := by
  have hh : HashIs 2 1 0 (hn 2 1 0) := hash_is (by decide) (by decide) (by decide)
  have hA : Below w.heap.size w (w.alloc (.cells #[.int .u8 0, .int .i64 0, .int .i64 4, .int .i64 9, .int .i64 0] 88)) := (Below.refl _ _).alloc (Nat.le_refl _) _
  have hst : StpW (w.alloc (.cells #[.int .u8 0, .int .i64 0, .int .i64 4, .int .i64 9, .int .i64 0] 88)) (.slice (some ⟨w.heap.size, 0, none⟩) 1 1) [⟨0, 0, 4, 9, 0⟩] := by
    refine .inr ⟨w.heap.size, 0, 1, rfl, by rw [size_alloc]; omega, fun j s hj i u hu => ?_⟩
    rcases j with _ | j
    · simp only [List.getElem?_cons_zero, Option.some.injEq] at hj
      subst hj
      rw [Nat.zero_mul, Nat.zero_add]
      exact cell_at (heap_alloc_last w _) (by simpa [Stp.cells] using hu)
    · simp at hj
  have hrun := run_w (hn 2 1 0) 2 1 0 hh rfl _ [⟨0, 0, 4, 9, 0⟩] _ hst (by decide)
  rw [awake_vs] at hrun
  have HRUN := Lib.hid hrun
  have HA := Lib.hid hA
  clear hst hrun hA hh
  unfold av at HRUN
  go_enter Try.func20, Try.ntmps20
  go_wp2_with fail
  refine HRUN.out.mono ?_
  rintro e w2 ⟨v, rfl, ⟨sls, q1, q2, q3⟩, hb⟩
  have HB2 := Lib.hid (HA.out.trans (hb.mono HA.out.size))
  obtain ⟨s0, s1, rfl⟩ : ∃ s0 s1, sls = [s0, s1] := by
    rcases sls with _ | ⟨s0, _ | ⟨s1, _ | ⟨s2, l⟩⟩⟩ <;> simp at q1
    exact ⟨s0, s1, rfl⟩
  obtain ⟨g, c, rfl⟩ := own_shape q2 (by decide)
  obtain ⟨m1, hm1, hsn⟩ := q3 1 s1 rfl
  simp only [List.getElem?_cons_succ, List.getElem?_cons_zero, Option.some.injEq] at hm1
  subst hm1
  have hsn2 := PairV.of_seen hsn
  obtain ⟨pa, pc, rfl, hp⟩ := hsn2
  obtain ⟨pg, po, rfl, p1, p2⟩ := hp 0 (4, 9) rfl
  have c0 : w2.cell? ⟨g, 0, none⟩ = some (.int .i64 0) := own_cells q2 (i := 0) rfl
  have c2 : w2.cell? ⟨g, 2, none⟩ = some (.int .i64 1) := own_cells q2 (i := 2) rfl
  have c3 : w2.cell? ⟨g, 3, none⟩ = some (.slice (some ⟨pg, po, none⟩) 1 pc) := own_cells q2 (i := 3) rfl
  simp only [Nat.zero_mul, Nat.add_zero] at p1 p2
  clear q1 q2 q3 hsn hp hb HRUN HA
  simp only [List.length_cons, List.length_nil, Nat.zero_add, Nat.reduceAdd]
  go_wp2_with fail
  refine bodyPost_ret (results_tmp rfl _ _ _) rfl ?_
  exact ⟨rfl, HB2.out⟩
end Go.Proofs.Ytpkndcmgialgcaa
