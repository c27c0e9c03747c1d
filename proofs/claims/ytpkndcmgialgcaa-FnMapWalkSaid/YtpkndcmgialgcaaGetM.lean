/- impl.MapGet: keys looked up in one version. -/
import Derived.Test.YtpkndcmgialgcaaOpn2
namespace Go.Proofs.Ytpkndcmgialgcaa
open Go.RowKit Go.Maps

theorem info2 : (Try.prog.info? 2).map (fun i => (i.zero, i.size, i.bytes)) = some (some (.int .i64 0), 1, 8) := by kernel_rfl
theorem info4 : (Try.prog.info? 4).map (fun i => (i.zero, i.size, i.bytes)) = some (some (.bool false), 1, 1) := by kernel_rfl

/-- v and o are what the keys tell in es -/
def Gots (w : World) (B : Nat) (v o : Value) (es : List (Int × Int)) (xs : List Int) : Prop :=
  w.ownsRow B 2 1 v xs.length (xs.map fun x => Value.int .i64 ((look es x).getD 0)) ∧ w.ownsRow B 4 1 o xs.length (xs.map fun x => Value.bool (look es x).isSome)

set_option maxRecDepth 100000 in
set_option maxHeartbeats 3200000 in
theorem mapGet_w (h : Int → Nat) (mo mu sh : Int) (hH : HashIs mo mu sh h) (h0 : (mo == 0) = false) (sv kv : Value) (steps : List Stp) (xs : List Int) (f : Nat) (m : MS Int Int) (w : World) (hs : StpW w sv steps) (hx : IntsV w kv xs) (hn : steps.length ≤ 500) (hxn : xs.length ≤ 1000) (hm : (versM h steps [MS.empty])[f]? = some m) :
    Calls Try.prog 45 #[av mo mu sh, sv, .int .i64 (f : Int), kv] w fun e w' => ∃ v o, e = .returned (.tuple #[v, o]) ∧ Gots w' w.heap.size v o m.es xs ∧ Below w.heap.size w w' := by
  obtain ⟨i2, hi, hz0, hz1, hz2⟩ := info_parts info2
  have HI := Lib.hid (And.intro hi (And.intro hz0 (And.intro hz1 hz2)))
  clear hi hz0 hz1 hz2
  obtain ⟨i4, hi, hz0, hz1, hz2⟩ := info_parts info4
  have HI4 := Lib.hid (And.intro hi (And.intro hz0 (And.intro hz1 hz2)))
  clear hi hz0 hz1 hz2
  have HS := Lib.hid hs
  have HH := Lib.hid hH
  have H0 := Lib.hid h0
  have HN := Lib.hid hn
  have HXN := Lib.hid hxn
  have hbx : Below w.heap.size w (w.alloc (.cells #[.int .u32 mo, .int .u32 mu, .int .u8 sh] 34)) := (Below.refl _ _).alloc (Nat.le_refl _) _
  have HMO := Lib.hid (mapsOf_w h mo mu sh HH.out H0.out sv steps _ (HS.out.below hbx) HN.out)
  have HBX := Lib.hid hbx
  have HK := Lib.hid (hx.below hbx)
  obtain ⟨ka, kc, rfl, -⟩ := hx
  clear hs hH h0 hn hxn hbx
  obtain ⟨vs, hvs⟩ : ∃ vs, vs = versM h steps [MS.empty] := ⟨_, rfl⟩
  rw [← hvs] at hm
  have hfl : f < vs.length := (List.getElem?_eq_some_iff.1 hm).1
  have hvl : vs.length = steps.length + 1 := by rw [hvs, versM_len]; rfl
  have hok : AllOk (steps.length + 1) vs := by
    rw [hvs]
    exact versM_ok (h := h) steps 1 [MS.empty] empty_ok
  obtain ⟨hon, hml⟩ := hok m (List.mem_of_getElem? hm)
  have HML : Hid (m.es.length < 80000000) := by show _ < _; have := HN.out; omega
  have HM := Lib.hid hm
  have HVS := Lib.hid hvs
  have HVL := Lib.hid hvl
  clear hvs hvl hok hon hml hm
  unfold av
  go_enter Try.func45, Try.ntmps45
  go_wp2_with fail
  refine HMO.out.mono ?_
  rintro e w1 ⟨l, rfl, hv, hb1⟩
  have hvs := HVS.out
  rw [← hvs] at hv
  obtain ⟨ptrs, hoL, hpl, hpI⟩ := hv
  obtain ⟨g, lcap, rfl⟩ := own_shape hoL (by omega)
  obtain ⟨r, hr⟩ : ∃ r, ptrs[f]? = some r := ⟨ptrs[f]'(by rw [hpl]; exact hfl), List.getElem?_eq_getElem _⟩
  obtain ⟨m', hm', mb, rfl, hmap⟩ := hpI f r hr
  rw [HM.out] at hm'
  cases hm'
  have hcm : w1.cell? ⟨g, f, none⟩ = some (.pointer (some ⟨mb, 0, none⟩)) := own_cell hoL hr
  have HCM := Lib.hid hcm
  have HMAP : Hid (IsMap h mo mu sh Any w1 (.pointer (some ⟨mb, 0, none⟩)) m) := ⟨mb, rfl, hmap⟩
  have HB1 : Hid (Below w.heap.size w w1) := HBX.out.trans (hb1.mono HBX.out.size)
  have HK1 := Lib.hid (HK.out.below hb1)
  have d1 : decide ((f : Int) < 0) = false := by simp
  have d3 : ¬ vs.length ≤ f := by omega
  have d2 : decide ((vs.length : Int) ≤ (f : Int)) = false := by simp; omega
  have hfl' : (f : Int) < (vs.length : Int) := by omega
  clear hvs hoL hpl hpI hr hmap hcm hb1 HMO HBX HK HM HVS
  go_wp2_with fail
  go_loopg [8, 9, 28] xs.length (fun k v o i wr => ∃ j : Nat, j + k = xs.length ∧ i = .int .i64 (j : Int) ∧ wr.ownsRow w1.heap.size 2 1 v j ((xs.take j).map fun x => Value.int .i64 ((look m.es x).getD 0)) ∧ wr.ownsRow w1.heap.size 4 1 o j ((xs.take j).map fun x => Value.bool (look m.es x).isSome) ∧ Below w1.heap.size w1 wr)
  case atStart => exact ⟨0, by omega, rfl, World.ownsRow_nil _ _ _ _, World.ownsRow_nil _ _ _ _, Below.refl _ _⟩
  case round =>
    obtain ⟨j, hjk, rfl, ho1, ho2, hbw⟩ := hrel
    have HO1 := Lib.hid ho1
    have HO2 := Lib.hid ho2
    have HB := Lib.hid hbw
    clear ho1 ho2 hbw
    have hw1 : IntKind.i64.wrap ((j : Int) + 1) = (j : Int) + 1 := by have := HXN.out; rw [IntKind.wrap_i64]; omega
    by_cases hlt : j < xs.length
    · have h1 : decide ((j : Int) < (xs.length : Int)) = true := by simp; omega
      obtain ⟨x, hxj⟩ : ∃ e, xs[j]? = some e := ⟨xs[j], List.getElem?_eq_getElem hlt⟩
      obtain ⟨ka', kc', hkv, hkk⟩ := HK1.out.below HB.out
      simp only [Value.slice.injEq] at hkv
      obtain ⟨kg, ko, rfl, hkc⟩ : ∃ kg ko, ka = some ⟨kg, ko, none⟩ ∧ wr.cell? ⟨kg, ko + j, none⟩ = some (.int .i64 x) := by
        obtain ⟨kg, ko, h8, h9⟩ := hkk j x hxj
        exact ⟨kg, ko, hkv.1.trans h8, h9⟩
      have hcm := (HB.out.cell (World.block_lt_of_cell? _ _ HCM.out)).trans HCM.out
      have HMP := Lib.hid (HMAP.out.keeps (Keeps.of_stay (Stay.of_below HB.out)))
      have HXJ := Lib.hid hxj
      clear hkk hkv hxj
      go_wp2_with fail
      refine (map_get (S := Any) HH.out x (by have := HML.out; omega) HMP.out).mono ?_
      rintro e w2 ⟨rfl, hb2⟩
      have HB2 := Lib.hid (HB.out.trans (hb2.mono HB.out.size))
      have HP1 := Lib.hid (own_below HO1.out hb2)
      have HP2 := Lib.hid (own_below HO2.out hb2)
      have HBB : Hid (w1.heap.size ≤ w2.heap.size) := HB2.out.size
      clear hb2 hkc hcm HO1 HO2 HB HMP
      obtain ⟨y1, hy1⟩ : ∃ y, y = (look m.es x).getD 0 := ⟨_, rfl⟩
      obtain ⟨y2, hy2⟩ : ∃ y, y = (look m.es x).isSome := ⟨_, rfl⟩
      rw [← hy1, ← hy2]
      have HY1 := Lib.hid hy1
      have HY2 := Lib.hid hy2
      clear hy1 hy2
      go_wp2_with (at_builtin; refine wpList_append_own _ rfl (.tmp 41) (.tmp 43) 38 rfl w1.heap.size 2 i2 (.int .i64 0) 1 8 Try.underlying38 HI.out.1 HI.out.2.1 HI.out.2.2.1 HI.out.2.2.2 rfl (by decide) _ _ _ rfl (HP1.out.alloc _) ⟨w2.heap.size, 0, none⟩ 1 1 [.int .i64 y1] rfl rfl (new_cell _ _ _) (one_oneCell rfl) (by have := HXN.out; unfold maxLen; omega) (by have := HXN.out; omega) (by have := HBB.out; rw [size_alloc]; omega) ?_)
      intro v3 w3 hown3 hgrow3 _
      have HQ1 := Lib.hid hown3
      have HQ2 := Lib.hid ((HP2.out.alloc (.cells #[.int .i64 y1] 2)).kept hgrow3 (own_ne HP2.out HP1.out (by decide)))
      have HB3 := Lib.hid (below_grown (HB2.out.alloc HBB.out (.cells #[.int .i64 y1] 2)) HP1.out (Nat.le_refl _) (Nat.le_refl _) hgrow3)
      have HBB3 : Hid (w1.heap.size ≤ w3.heap.size) := HB3.out.size
      clear hown3 hgrow3
      go_wp2_with (at_builtin; refine wpList_append_own _ rfl (.tmp 45) (.tmp 47) 55 rfl w1.heap.size 4 i4 (.bool false) 1 1 Try.underlying55 HI4.out.1 HI4.out.2.1 HI4.out.2.2.1 HI4.out.2.2.2 rfl (by decide) _ _ _ rfl (HQ2.out.alloc _) ⟨w3.heap.size, 0, none⟩ 1 1 [.bool y2] rfl rfl (new_cell _ _ _) (one_oneCell rfl) (by have := HXN.out; unfold maxLen; omega) (by have := HXN.out; omega) (by have := HBB3.out; rw [size_alloc]; omega) ?_)
      intro v4 w4 hown4 hgrow4 _
      have HR2 := Lib.hid hown4
      have HR1 := Lib.hid ((HQ1.out.alloc (.cells #[.bool y2] 4)).kept hgrow4 (own_ne HQ1.out HQ2.out (by decide)))
      have HB4 := Lib.hid (below_grown (HB3.out.alloc HBB3.out (.cells #[.bool y2] 4)) HQ2.out (Nat.le_refl _) (Nat.le_refl _) hgrow4)
      clear hown4 hgrow4
      go_wp2_with fail
      go_roundg (gk - 1)
      case measure => omega
      case rel =>
        have e1 : xs.take (j + 1) = xs.take j ++ [x] := by rw [List.take_add_one, HXJ.out]; rfl
        refine ⟨j + 1, by omega, rfl, ?_, ?_, HB4.out⟩
        · rw [e1, List.map_append, List.map_take]
          have := HR1.out
          rw [HY1.out] at this
          exact this
        · rw [e1, List.map_append, List.map_take]
          have := HR2.out
          rw [HY2.out] at this
          exact this
    · have h1 : decide ((j : Int) < (xs.length : Int)) = false := by simp; omega
      obtain rfl : j = xs.length := by omega
      go_wp2_with fail
      refine bodyPost_ret (results_tmp2 rfl _ _ _) rfl ?_
      have q1 := HO1.out
      have q2 := HO2.out
      rw [List.take_length] at q1 q2
      exact ⟨_, _, rfl, ⟨own_base q1 HB1.out.size, own_base q2 HB1.out.size⟩, HB1.out.trans (HB.out.mono HB1.out.size)⟩
end Go.Proofs.Ytpkndcmgialgcaa
