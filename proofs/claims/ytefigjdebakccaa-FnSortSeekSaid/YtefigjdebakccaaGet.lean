/- The first key of a node; the value of a key. -/
import Derived.Test.YtefigjdebakccaaIdx
namespace Go.Proofs.Ytefigjdebakccaa
open Go.RowKit

theorem disp_one {ty p fid ty2 p2 fid2 : Nat} {name : String} (hd : Disp ty (.pointer (some ⟨p, 0, none⟩)) fid name) (hd2 : Disp ty2 (.pointer (some ⟨p2, 0, none⟩)) fid2 name)
    (hv : Value.iface ty (.pointer (some ⟨p, 0, none⟩)) = .iface ty2 (.pointer (some ⟨p2, 0, none⟩))) : ty = ty2 ∧ p = p2 ∧ fid = fid2 := by
  simp only [Value.iface.injEq, Value.pointer.injEq, Option.some.injEq, Addr.mk.injEq, and_true] at hv
  obtain ⟨rfl, rfl⟩ := hv
  have e := (hd.2.1 default).symm.trans (hd2.2.1 default)
  simp only [Result.ok.injEq, Prod.mk.injEq, and_true] at e
  exact ⟨rfl, rfl, e⟩
theorem disp_l_min (b : Nat) : Disp 138 (.pointer (some ⟨b, 0, none⟩)) 106 "pub-frond/pub/immutable.minKey" := ⟨fun w => by kernel_rfl, fun w => by kernel_rfl, fun a w => by kernel_rfl⟩
theorem disp_b_min (b : Nat) : Disp 147 (.pointer (some ⟨b, 0, none⟩)) 113 "pub-frond/pub/immutable.minKey" := ⟨fun w => by kernel_rfl, fun w => by kernel_rfl, fun a w => by kernel_rfl⟩
theorem disp_l_get (b : Nat) : Disp 138 (.pointer (some ⟨b, 0, none⟩)) 104 "pub-frond/pub/immutable.get" := ⟨fun w => by kernel_rfl, fun w => by kernel_rfl, fun a w => by kernel_rfl⟩
theorem disp_b_get (b : Nat) : Disp 147 (.pointer (some ⟨b, 0, none⟩)) 111 "pub-frond/pub/immutable.get" := ⟨fun w => by kernel_rfl, fun w => by kernel_rfl, fun a w => by kernel_rfl⟩
theorem disp_l_idx (b : Nat) : Disp 138 (.pointer (some ⟨b, 0, none⟩)) 105 "pub-frond/pub/immutable.indexOf" := ⟨fun w => by kernel_rfl, fun w => by kernel_rfl, fun a w => by kernel_rfl⟩
theorem disp_b_idx (b : Nat) : Disp 147 (.pointer (some ⟨b, 0, none⟩)) 112 "pub-frond/pub/immutable.indexOf" := ⟨fun w => by kernel_rfl, fun w => by kernel_rfl, fun a w => by kernel_rfl⟩

set_option maxRecDepth 100000 in
set_option maxHeartbeats 400000 in
theorem leafMin_w (b g q n c : Nat) (x : Int) (w : World) (hn : 0 < n) (h1 : w.cell? ⟨b, 0, none⟩ = some (.slice (some ⟨g, q, none⟩) n c)) (h2 : w.cell? ⟨g, q, none⟩ = some (.int .i64 x)) :
    Calls Try.prog 106 #[.pointer (some ⟨b, 0, none⟩)] w fun e w' => e = .returned (.int .i64 x) ∧ w = w' := by
  have hn' : (0 : Int) < (n : Int) := by omega
  go_enter Try.func106, Try.ntmps106
  go_wp2
  go_ret
  exact ⟨rfl, rfl⟩
set_option maxRecDepth 100000 in
set_option maxHeartbeats 400000 in
theorem brMin_w (b g q n c : Nat) (x : Int) (ty p fid : Nat) (w : World) (hn : 0 < n) (h1 : w.cell? ⟨b, 0, none⟩ = some (.slice (some ⟨g, q, none⟩) n c)) (h2 : w.cell? ⟨g, q + 1, none⟩ = some (.iface ty (.pointer (some ⟨p, 0, none⟩))))
    (hd : Disp ty (.pointer (some ⟨p, 0, none⟩)) fid "pub-frond/pub/immutable.minKey") (hc : Calls Try.prog fid #[.pointer (some ⟨p, 0, none⟩)] w fun e w' => e = .returned (.int .i64 x) ∧ w = w') :
    Calls Try.prog 113 #[.pointer (some ⟨b, 0, none⟩)] w fun e w' => e = .returned (.int .i64 x) ∧ w = w' := by
  have hn' : (0 : Int) < (n : Int) := by omega
  have HC := Lib.hid hc
  obtain ⟨d1, d2, d3⟩ := hd
  clear hc
  go_enter Try.func113, Try.ntmps113
  go_wp2_with fail
  refine HC.out.mono ?_
  rintro e w' ⟨rfl, rfl⟩
  go_wp2_with fail
  go_ret
  exact ⟨rfl, rfl⟩
/-- the first key of any node -/
theorem min_any {w : World} : ∀ {r : Nat} {v : Value} {es : List (Int × Int)}, SN w r v es → ∃ (ty p fid : Nat), v = .iface ty (.pointer (some ⟨p, 0, none⟩)) ∧ Disp ty (.pointer (some ⟨p, 0, none⟩)) fid "pub-frond/pub/immutable.minKey" ∧
    Calls Try.prog fid #[.pointer (some ⟨p, 0, none⟩)] w fun e w' => e = .returned (.int .i64 (hd 0 es)) ∧ w = w'
  | 0, v, es, ⟨b, sl, h1, h2, hE, h7, h8⟩ => by
    obtain ⟨g, q, c, arr, rfl, h4, h5, h6⟩ := hE
    refine ⟨138, b, 106, h1, disp_l_min b, ?_⟩
    cases es with
    | nil => exact absurd rfl h7
    | cons e es =>
      have := (h6 0 e rfl).1
      exact leafMin_w b g q _ c e.1 w (by simp) (cell_at h2 rfl) (cell_at h4 (by simpa using this))
  | r + 1, v, es, ⟨kids, ⟨b, sl, h1, h2, hR, h7, h8⟩, h9, h10⟩ => by
    obtain ⟨g, q, c, arr, rfl, h4, h5, h6⟩ := hR
    subst h10
    refine ⟨147, b, 113, h1, disp_b_min b, ?_⟩
    cases kids with
    | nil => exact absurd rfl h7
    | cons kd kids =>
      have hk := h9 kd (.head _)
      obtain ⟨ty, p, fid, e1, e2, e3⟩ := min_any hk
      have h11 := (h6 0 _ rfl).2
      have hh : hd 0 (ess (kd :: kids)).flatten = hd 0 kd.2 := by
        have hne := SN.ne hk
        show hd 0 (kd.2 ++ (ess kids).flatten) = _
        cases hk2 : kd.2 with
        | nil => exact absurd hk2 hne
        | cons a l => rfl
      rw [hh]
      refine brMin_w b g q _ c _ ty p fid w (by rw [krow_len]; simp) (cell_at h2 rfl) (cell_at h4 ?_) e2 e3
      have h12 : arr[q + 0 * 2 + 1]? = some kd.1 := h11
      rw [e1] at h12
      simpa using h12

set_option maxRecDepth 100000 in
set_option maxHeartbeats 1600000 in
theorem leafGet_w (o : Nat) (cv : Value) (hc : CmpIs o cv) (key : Int) (nb g q c : Nat) (es : List (Int × Int)) (hs : Srt (ltO o) es) (hl : es.length ≤ 1000000) (w : World)
    (h4 : w.cell? ⟨nb, 0, none⟩ = some (.slice (some ⟨g, q, none⟩) es.length c)) (h5 : ∀ (i : Nat) (e : Int × Int), es[i]? = some e → w.cell? ⟨g, q + i * 2, none⟩ = some (.int .i64 e.1) ∧ w.cell? ⟨g, q + i * 2 + 1, none⟩ = some (.int .i64 e.2)) :
    Calls Try.prog 104 #[.pointer (some ⟨nb, 0, none⟩), .int .i64 key, cv] w fun e w' => e = .returned (.tuple #[.int .i64 ((look (ltO o) es key).getD 0), .bool (look (ltO o) es key).isSome]) ∧ Below w.heap.size w w' := by
  have HI := Lib.hid (leafIdx_w o cv hc key nb g q c es hs hl w h4 fun i e hi => (h5 i e hi).1)
  obtain ⟨a1, a2⟩ := at_look (ord_ltO o) hs key
  have HA := Lib.hid (And.intro a1 a2)
  have hle := at_le (lt := ltO o) es key
  obtain ⟨n, hn⟩ : ∃ n, n = at_ (ltO o) es key := ⟨_, rfl⟩
  rw [← hn] at HI HA hle
  obtain ⟨ty, v, fid, rfl, ⟨d1, d2, d3⟩, hcall⟩ := hc
  have HC := Lib.hid hcall
  have H4 := Lib.hid h4
  have H5 := Lib.hid h5
  clear hcall h4 h5 hn hs a1 a2
  go_enter Try.func104, Try.ntmps104
  go_wp2_with fail
  refine HI.out.mono ?_
  rintro e w1 ⟨rfl, hb⟩
  have h4 := bcell hb H4.out
  have HB := Lib.hid hb
  clear HI hb
  by_cases hnl : n = es.length
  · have hk : look (ltO o) es key = none := by
      cases h : look (ltO o) es key with
      | none => rfl
      | some x =>
        have := (HA.out.1 x h).1
        rw [hnl, List.getElem?_eq_none (Nat.le_refl _)] at this
        cases this
    have HK := Lib.hid hk
    have d : ((n : Int) == (es.length : Int)) = true := by rw [hnl]; simp
    clear hnl hk
    go_upto_region 2 with (fail)
    refine region_still (by kernel_rfl) (by kernel_rfl) (Veil.out ?_)
    repeat (refine v_step (fun K hK => ?_); go_simp; refine hK _ ?_; clear hK K)
    refine v_nil ⟨?_⟩
    go_wp2_with fail
    go_ret2
    refine ⟨?_, HB.out.drew⟩
    rw [HK.out]
    rfl
  · obtain ⟨y, hy⟩ : ∃ y, es[n]? = some y := ⟨_, List.getElem?_eq_getElem (show n < es.length by omega)⟩
    have d : ((n : Int) == (es.length : Int)) = false := by simp; omega
    have hi' : (n : Int) < (es.length : Int) := by omega
    have hi0 : (0 : Int) ≤ (n : Int) := by omega
    have h5a := bcell HB.out (H5.out n y hy).1
    have h5b := bcell HB.out (H5.out n y hy).2
    have HY := Lib.hid hy
    have HNL := Lib.hid hnl
    clear hy hnl
    go_upto_region 2 with (fail)
    refine region_tail 21 (by kernel_rfl) (by kernel_rfl) ?_
    simp only [List.take_succ_cons, List.take_zero, List.drop_succ_cons, List.drop_zero]
    repeat still_step
    refine wpStill_nil ?_
    go_wp2_with fail
    refine (HC.out _ _ _).mono ?_
    rintro e w' ⟨rfl, rfl⟩
    by_cases hk : y.1 = key
    · have hz : (cmpO o y.1 key != 0) = false := by rw [hk, cmp_eq]; rfl
      have HK := Lib.hid hk
      clear hk
      go_wp2_with fail
      go_ret2
      refine ⟨?_, HB.out.drew⟩
      cases h : look (ltO o) es key with
      | none => exact absurd HK.out ((HA.out.2 h).1 y HY.out)
      | some x =>
        have := (HA.out.1 x h).1
        rw [HY.out] at this
        cases this
        rfl
    · have hz : (cmpO o y.1 key != 0) = true := by
        have : cmpO o y.1 key ≠ 0 := fun e => hk (cmp_zero.1 e)
        simpa using this
      have HK := Lib.hid hk
      clear hk
      go_wp2_with fail
      go_ret2
      refine ⟨?_, HB.out.drew⟩
      cases h : look (ltO o) es key with
      | none => rfl
      | some x =>
        have := (HA.out.1 x h).1
        rw [HY.out] at this
        cases this
        exact absurd rfl HK.out

set_option maxRecDepth 100000 in
set_option maxHeartbeats 1600000 in
theorem brGet_w (o : Nat) (cv : Value) (hc : CmpIs o cv) (key : Int) (nb g q c : Nat) (ks : List (List (Int × Int))) (hk : Kids (ltO o) ks) (hl : ks.length ≤ 1000000) (w : World)
    (h4 : w.cell? ⟨nb, 0, none⟩ = some (.slice (some ⟨g, q, none⟩) ks.length c)) (h5 : ∀ (i : Nat) (e : List (Int × Int)), ks[i]? = some e → w.cell? ⟨g, q + i * 2, none⟩ = some (.int .i64 (hd 0 e)))
    (n ty p fid : Nat) (hn : n = cut (ltO o) 0 ks key - 1) (hnl : n < ks.length) (h6 : w.cell? ⟨g, q + n * 2 + 1, none⟩ = some (.iface ty (.pointer (some ⟨p, 0, none⟩)))) (hd : Disp ty (.pointer (some ⟨p, 0, none⟩)) fid "pub-frond/pub/immutable.get") (x : Int) (b : Bool)
    (hcall : ∀ W, Below w.heap.size w W → Calls Try.prog fid #[.pointer (some ⟨p, 0, none⟩), .int .i64 key, cv] W fun e w' => e = .returned (.tuple #[.int .i64 x, .bool b]) ∧ Below W.heap.size W w') :
    Calls Try.prog 111 #[.pointer (some ⟨nb, 0, none⟩), .int .i64 key, cv] w fun e w' => e = .returned (.tuple #[.int .i64 x, .bool b]) ∧ Below w.heap.size w w' := by
  have HI := Lib.hid (brIdx_w o cv hc key nb g q c ks hk hl w h4 h5)
  rw [← hn] at HI
  obtain ⟨ty2, v, fid2, rfl, -, -⟩ := hc
  have HC := Lib.hid hcall
  have H4 := Lib.hid h4
  have H6 := Lib.hid h6
  obtain ⟨d1, d2, d3⟩ := hd
  have hnl' : (n : Int) < (ks.length : Int) := by omega
  clear hcall h4 h5 h6 hn hk
  go_enter Try.func111, Try.ntmps111
  go_wp2_with fail
  refine HI.out.mono ?_
  rintro e w1 ⟨rfl, hb⟩
  have h4 := bcell hb H4.out
  have h6 := bcell hb H6.out
  have HB := Lib.hid hb
  clear HI hb
  go_wp2_with fail
  refine (HC.out _ HB.out).mono ?_
  rintro e w2 ⟨rfl, hb2⟩
  have HB2 : Hid (Below w.heap.size w w2) := HB.out.trans (hb2.mono HB.out.size)
  clear hb2
  go_wp2_with fail
  go_ret2
  exact ⟨rfl, HB2.out⟩

theorem Srt.kids {lt : Int → Int → Bool} {kids : List Kid} {w : World} {r : Nat} (hs : Srt lt (ess kids).flatten) (hk : ∀ kd ∈ kids, SN w r kd.1 kd.2) : Kids lt (ess kids) :=
  ⟨fun es he => by
    unfold ess at he
    obtain ⟨kd, h1, rfl⟩ := List.mem_map.1 he
    exact SN.ne (hk kd h1), hs⟩
theorem Srt.kid {lt : Int → Int → Bool} {ks : List (List (Int × Int))} {es : List (Int × Int)} (hs : Srt lt ks.flatten) (he : es ∈ ks) : Srt lt es := List.Pairwise.sublist (List.sublist_flatten_of_mem he) hs
/-- the value of a key, at any node -/
theorem get_any (o : Nat) (cv : Value) (hc : CmpIs o cv) (key : Int) : ∀ {r : Nat} {w : World} {v : Value} {es : List (Int × Int)}, SN w r v es → Srt (ltO o) es → ∃ (ty p fid : Nat), v = .iface ty (.pointer (some ⟨p, 0, none⟩)) ∧ Disp ty (.pointer (some ⟨p, 0, none⟩)) fid "pub-frond/pub/immutable.get" ∧
    Calls Try.prog fid #[.pointer (some ⟨p, 0, none⟩), .int .i64 key, cv] w fun e w' => e = .returned (.tuple #[.int .i64 ((look (ltO o) es key).getD 0), .bool (look (ltO o) es key).isSome]) ∧ Below w.heap.size w w'
  | 0, w, v, es, ⟨b, sl, h1, h2, hE, h7, h8⟩, hs => by
    obtain ⟨g, q, c, arr, rfl, h4, h5, h6⟩ := hE
    refine ⟨138, b, 104, h1, disp_l_get b, ?_⟩
    exact leafGet_w o cv hc key b g q c es hs (by omega) w (cell_at h2 rfl) fun i e hi => ⟨cell_at h4 (h6 i e hi).1, cell_at h4 (h6 i e hi).2⟩
  | r + 1, w, v, es, ⟨kids, ⟨b, sl, h1, h2, hR, h7, h8⟩, h9, h10⟩, hs => by
    obtain ⟨g, q, c, arr, rfl, h4, h5, h6⟩ := hR
    subst h10
    have hK := Srt.kids hs h9
    have hne : ess kids ≠ [] := fun e => h7 (List.eq_nil_of_length_eq_zero (by rw [← ess_len, e]; rfl))
    obtain ⟨k1, -, -⟩ := kids_at (ord_ltO o) hK 0 key hne
    obtain ⟨n, hn⟩ : ∃ n, n = cut (ltO o) 0 (ess kids) key - 1 := ⟨_, rfl⟩
    rw [← hn] at k1
    obtain ⟨kd, hkd⟩ : ∃ kd, kids[n]? = some kd := ⟨_, List.getElem?_eq_getElem (show n < kids.length by rw [ess_len] at k1; exact k1)⟩
    have hm := List.mem_of_getElem? hkd
    have hlook := look_kid (ord_ltO o) hK (d := 0) (k := key) (by rw [← hn]; exact ess_get hkd)
    have hsk : Srt (ltO o) kd.2 := hs.kid (List.mem_of_getElem? (ess_get hkd))
    obtain ⟨ty, p, fid, e1, e2, e3⟩ := get_any o cv hc key (h9 kd hm) hsk
    have h11 := (h6 n _ (krow_get hkd)).2
    rw [e1] at h11
    rw [krow_len, ← ess_len] at h2
    refine ⟨147, b, 111, h1, disp_b_get b, ?_⟩
    rw [hlook]
    refine brGet_w o cv hc key b g q c (ess kids) hK (by rw [ess_len]; omega) w (cell_at h2 rfl) (fun i e hi => ?_) n ty p fid hn k1 (cell_at h4 h11) e2 _ _ fun W hW => ?_
    · obtain ⟨kd2, hk2⟩ : ∃ kd, kids[i]? = some kd := ⟨_, List.getElem?_eq_getElem (show i < kids.length by rw [← ess_len]; exact (List.getElem?_eq_some_iff.1 hi).1)⟩
      rw [ess_get hk2] at hi
      cases hi
      exact cell_at h4 (h6 i _ (krow_get hk2)).1
    · obtain ⟨ty2, p2, fid2, f1, f2, f3⟩ := get_any o cv hc key ((h9 kd hm).stay (Stay.of_below hW)) hsk
      obtain ⟨rfl, rfl, rfl⟩ := disp_one e2 f2 (e1.symm.trans f1)
      exact f3
end Go.Proofs.Ytefigjdebakccaa
