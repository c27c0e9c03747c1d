/- Where a key stands in a leaf, and in a branch. -/
import Derived.Test.YtefigjdebakccaaNod
namespace Go.Proofs.Ytefigjdebakccaa
open Go.RowKit

theorem at_mono {es : List (Int × Int)} {o : Nat} (hs : Srt (ltO o) es) {key : Int} {i : Nat} {e : Int × Int} (hi : at_ (ltO o) es key ≤ i) (he : es[i]? = some e) : ltO o e.1 key = false := by
  refine up_ge (ord_ltO o) hs e ?_
  rw [← (take_at es key).2, List.mem_iff_getElem?]
  exact ⟨i - at_ (ltO o) es key, by rw [List.getElem?_drop, show at_ (ltO o) es key + (i - at_ (ltO o) es key) = i by omega]; exact he⟩
@[simp] theorem size_alloc (w : World) (o : Obj) : (w.alloc o).heap.size = w.heap.size + 1 := by simp
theorem bcell {w w' : World} (hb : Below w.heap.size w w') {a : Addr} {v : Value} (h : w.cell? a = some v) : w'.cell? a = some v := (hb.cell (World.block_lt_of_cell? w _ h)).trans h

/-- three boxes -/
theorem box3 (w : World) (x y z : Value) (tx ty tz : TypeId) : ∃ X, X = ((w.alloc (.cells #[x] tx)).alloc (.cells #[y] ty)).alloc (.cells #[z] tz) ∧ Below w.heap.size w X ∧ X.heap.size = w.heap.size + 3 ∧
    X.cell? ⟨w.heap.size, 0, none⟩ = some x ∧ X.cell? ⟨w.heap.size + 1, 0, none⟩ = some y ∧ X.cell? ⟨w.heap.size + 1 + 1, 0, none⟩ = some z := by
  refine ⟨_, rfl, ((((Below.refl _ _).alloc (Nat.le_refl _) _).alloc (by rw [size_alloc]; omega) _).alloc (by rw [size_alloc, size_alloc]; omega) _), by rw [size_alloc, size_alloc, size_alloc], ?_, ?_, ?_⟩
  · exact cell_at (at_alloc (at_alloc (heap_alloc_last w _))) rfl
  · have h := heap_alloc_last (w.alloc (.cells #[x] tx)) (.cells #[y] ty)
    rw [size_alloc] at h
    exact cell_at (at_alloc h) rfl
  · have h := heap_alloc_last ((w.alloc (.cells #[x] tx)).alloc (.cells #[y] ty)) (.cells #[z] tz)
    rw [size_alloc, size_alloc] at h
    exact cell_at h rfl
theorem call109 (args : Array Value) (w : World) : (callFunc 109 args).run Try.prog w = .ok (.enter 109 args) w := by kernel_rfl
theorem call115 (args : Array Value) (w : World) : (callFunc 115 args).run Try.prog w = .ok (.enter 115 args) w := by kernel_rfl

set_option maxRecDepth 100000 in
set_option maxHeartbeats 1600000 in
theorem leafIdx_w (o : Nat) (cv : Value) (hc : CmpIs o cv) (key : Int) (nb g q c : Nat) (es : List (Int × Int)) (hs : Srt (ltO o) es) (hl : es.length ≤ 1000000) (w : World)
    (h4 : w.cell? ⟨nb, 0, none⟩ = some (.slice (some ⟨g, q, none⟩) es.length c)) (h5 : ∀ (i : Nat) (e : Int × Int), es[i]? = some e → w.cell? ⟨g, q + i * 2, none⟩ = some (.int .i64 e.1)) :
    Calls Try.prog 105 #[.pointer (some ⟨nb, 0, none⟩), .int .i64 key, cv] w fun e w' => e = .returned (.int .i64 (at_ (ltO o) es key : Nat)) ∧ Below w.heap.size w w' := by
  have HC := Lib.hid hc
  have HS := Lib.hid hs
  have H4 := Lib.hid h4
  have H5 := Lib.hid h5
  obtain ⟨ty, v, fid, rfl, -, -⟩ := hc
  clear hs h4 h5
  go_enter Try.func105, Try.ntmps105
  go_upto_region 1 with (fail)
  obtain ⟨X, hX, hb, hz, x0, x1, x2⟩ := box3 w (.pointer (some ⟨nb, 0, none⟩)) (.int .i64 key) (.iface ty v) 138 3 99
  rw [← hX]
  have HB := Lib.hid hb
  have HX := Lib.hid (And.intro x0 (And.intro x1 x2))
  have h4 := bcell hb H4.out
  have HP : Hid (∀ (i : Nat) (W : World), i < es.length → Below X.heap.size X W → Calls Try.prog 109 (#[.int .i64 (i : Int)] ++ #[.pointer (some ⟨w.heap.size + 1 + 1, 0, none⟩), .pointer (some ⟨w.heap.size, 0, none⟩), .pointer (some ⟨w.heap.size + 1, 0, none⟩)]) W
      fun e w' => e = .returned (.bool (match es[i]? with | some y => !ltO o y.1 key | none => true)) ∧ Below W.heap.size W w') := fun i W hi hW => by
    obtain ⟨y, hy⟩ : ∃ y, es[i]? = some y := ⟨_, List.getElem?_eq_getElem hi⟩
    rw [hy]
    exact leafCl_w o _ HC.out key y.1 nb (w.heap.size + 1 + 1) w.heap.size (w.heap.size + 1) g q es.length c i W _ rfl hi (bcell hW HX.out.2.2) (bcell hW HX.out.1) (bcell hW HX.out.2.1) (bcell hW (bcell HB.out H4.out)) (bcell hW (bcell HB.out (H5.out i y hy)))
  clear hX hb hz x1 x2
  go_wp2_with fail
  refine (search_w es.length (at_ (ltO o) es key) 109 _ _ X hl (at_le es key) (fun i hi => ?_) (fun i hi1 hi2 => ?_) call109 HP.out).mono ?_
  · have := at_le (lt := ltO o) es key
    obtain ⟨y, hy⟩ : ∃ y, es[i]? = some y := ⟨_, List.getElem?_eq_getElem (show i < es.length by omega)⟩
    show (match es[i]? with | some y => !ltO o y.1 key | none => true) = false
    rw [hy]
    simp [at_lo hi hy]
  · obtain ⟨y, hy⟩ : ∃ y, es[i]? = some y := ⟨_, List.getElem?_eq_getElem hi2⟩
    show (match es[i]? with | some y => !ltO o y.1 key | none => true) = true
    rw [hy]
    simp [at_mono HS.out hi1 hy]
  rintro e w' ⟨rfl, hb'⟩
  have HB' : Hid (Below w.heap.size w w') := HB.out.trans (hb'.mono HB.out.size)
  clear hb'
  go_wp2_with fail
  go_ret
  exact ⟨rfl, HB'.out⟩

theorem cut_mono {lt : Int → Int → Bool} (o : Ord lt) {ks : List (List (Int × Int))} (hk : Kids lt ks) {d k : Int} {i : Nat} {es : List (Int × Int)} (hi : cut lt d ks k ≤ i) (he : ks[i]? = some es) : lt k (hd d es) = true := by
  have hn : ks ≠ [] := by rintro rfl; cases he
  by_cases e : i = cut lt d ks k
  · subst e; exact cut_hi he
  · obtain ⟨h1, h2, h3⟩ := kids_at o hk d k hn
    obtain ⟨x, hx, hxe⟩ := hd_mem (d := d) (hk.1 es (List.mem_of_getElem? he))
    rw [← hxe]
    refine h3 x ?_
    rw [List.mem_flatten]
    refine ⟨es, ?_, hx⟩
    rw [List.mem_iff_getElem?]
    exact ⟨i - (cut lt d ks k - 1 + 1), by rw [List.getElem?_drop, show cut lt d ks k - 1 + 1 + (i - (cut lt d ks k - 1 + 1)) = i by omega]; exact he⟩
theorem krow_len (kids : List Kid) : (krow kids).length = kids.length := by unfold krow; rw [List.length_map]
theorem ess_len (kids : List Kid) : (ess kids).length = kids.length := by unfold ess; rw [List.length_map]
theorem krow_get {kids : List Kid} {i : Nat} {kd : Kid} (h : kids[i]? = some kd) : (krow kids)[i]? = some (hd 0 kd.2, kd.1) := by unfold krow; rw [List.getElem?_map, h]; rfl
theorem ess_get {kids : List Kid} {i : Nat} {kd : Kid} (h : kids[i]? = some kd) : (ess kids)[i]? = some kd.2 := by unfold ess; rw [List.getElem?_map, h]; rfl

set_option maxRecDepth 100000 in
set_option maxHeartbeats 400000 in
theorem brCl_w (o : Nat) (cv : Value) (hc : CmpIs o cv) (key x : Int) (nb cb nx kb g q N c i : Nat) (w : World) (r : Bool) (hr : r = ltO o key x) (hi : i < N)
    (h1 : w.cell? ⟨cb, 0, none⟩ = some cv) (h2 : w.cell? ⟨nx, 0, none⟩ = some (.pointer (some ⟨nb, 0, none⟩))) (h3 : w.cell? ⟨kb, 0, none⟩ = some (.int .i64 key)) (h4 : w.cell? ⟨nb, 0, none⟩ = some (.slice (some ⟨g, q, none⟩) N c))
    (h5 : w.cell? ⟨g, q + i * 2, none⟩ = some (.int .i64 x)) :
    Calls Try.prog 115 #[.int .i64 (i : Int), .pointer (some ⟨cb, 0, none⟩), .pointer (some ⟨nx, 0, none⟩), .pointer (some ⟨kb, 0, none⟩)] w fun e w' => e = .returned (.bool r) ∧ Below w.heap.size w w' := by
  obtain ⟨ty, v, fid, rfl, ⟨d1, d2, d3⟩, hcall⟩ := hc
  have hcm : (cmpO o x key == 1) = r := by
    rw [hr]
    cases h : ltO o key x with
    | true => rw [cmp_hi h]; rfl
    | false =>
      have : cmpO o x key ≠ 1 := fun e => by rw [cmp_one] at e; rw [e] at h; cases h
      simpa using this
  have HCM := Lib.hid hcm
  have HC := Lib.hid hcall
  have hi' : (i : Int) < (N : Int) := by omega
  have hi0 : (0 : Int) ≤ (i : Int) := by omega
  clear hr hcm hcall
  go_enter Try.func115, Try.ntmps115
  go_wp2_with fail
  refine region_tail 13 (by kernel_rfl) (by kernel_rfl) ?_
  simp only [List.take_succ_cons, List.take_zero, List.drop_succ_cons, List.drop_zero]
  repeat still_step
  refine wpStill_nil ?_
  go_wp2_with fail
  refine (HC.out _ _ _).mono ?_
  rintro e w' ⟨rfl, rfl⟩
  have hcm := HCM.out
  go_wp2_with fail
  go_ret
  exact ⟨rfl, (Below.refl _ _).drew⟩

set_option maxRecDepth 100000 in
set_option maxHeartbeats 1600000 in
theorem brIdx_w (o : Nat) (cv : Value) (hc : CmpIs o cv) (key : Int) (nb g q c : Nat) (ks : List (List (Int × Int))) (hk : Kids (ltO o) ks) (hl : ks.length ≤ 1000000) (w : World)
    (h4 : w.cell? ⟨nb, 0, none⟩ = some (.slice (some ⟨g, q, none⟩) ks.length c)) (h5 : ∀ (i : Nat) (e : List (Int × Int)), ks[i]? = some e → w.cell? ⟨g, q + i * 2, none⟩ = some (.int .i64 (hd 0 e))) :
    Calls Try.prog 112 #[.pointer (some ⟨nb, 0, none⟩), .int .i64 key, cv] w fun e w' => e = .returned (.int .i64 (cut (ltO o) 0 ks key - 1 : Nat)) ∧ Below w.heap.size w w' := by
  have HC := Lib.hid hc
  have HS := Lib.hid hk
  have H4 := Lib.hid h4
  have H5 := Lib.hid h5
  obtain ⟨ty, v, fid, rfl, -, -⟩ := hc
  clear hk h4 h5
  go_enter Try.func112, Try.ntmps112
  go_upto_region 1 with (fail)
  obtain ⟨X, hX, hb, hz, x0, x1, x2⟩ := box3 w (.pointer (some ⟨nb, 0, none⟩)) (.int .i64 key) (.iface ty v) 147 3 99
  rw [← hX]
  have HB := Lib.hid hb
  have HX := Lib.hid (And.intro x0 (And.intro x1 x2))
  have h4 := bcell hb H4.out
  have HP : Hid (∀ (i : Nat) (W : World), i < ks.length → Below X.heap.size X W → Calls Try.prog 115 (#[.int .i64 (i : Int)] ++ #[.pointer (some ⟨w.heap.size + 1 + 1, 0, none⟩), .pointer (some ⟨w.heap.size, 0, none⟩), .pointer (some ⟨w.heap.size + 1, 0, none⟩)]) W
      fun e w' => e = .returned (.bool (match ks[i]? with | some y => ltO o key (hd 0 y) | none => true)) ∧ Below W.heap.size W w') := fun i W hi hW => by
    obtain ⟨y, hy⟩ : ∃ y, ks[i]? = some y := ⟨_, List.getElem?_eq_getElem hi⟩
    rw [hy]
    exact brCl_w o _ HC.out key (hd 0 y) nb (w.heap.size + 1 + 1) w.heap.size (w.heap.size + 1) g q ks.length c i W _ rfl hi (bcell hW HX.out.2.2) (bcell hW HX.out.1) (bcell hW HX.out.2.1) (bcell hW (bcell HB.out H4.out)) (bcell hW (bcell HB.out (H5.out i y hy)))
  clear hX hb hz x1 x2
  obtain ⟨n, hn⟩ : ∃ n, n = cut (ltO o) 0 ks key := ⟨_, rfl⟩
  have HN := Lib.hid hn
  have hnl : n ≤ ks.length := by rw [hn]; exact cut_le _ _ _
  clear hn
  go_wp2_with fail
  refine (search_w ks.length n 115 _ _ X hl hnl (fun i hi => ?_) (fun i hi1 hi2 => ?_) call115 HP.out).mono ?_
  · obtain ⟨y, hy⟩ : ∃ y, ks[i]? = some y := ⟨_, List.getElem?_eq_getElem (show i < ks.length by omega)⟩
    show (match ks[i]? with | some y => ltO o key (hd 0 y) | none => true) = false
    rw [hy]
    exact cut_lo (by rw [← HN.out]; exact hi) hy
  · obtain ⟨y, hy⟩ : ∃ y, ks[i]? = some y := ⟨_, List.getElem?_eq_getElem hi2⟩
    show (match ks[i]? with | some y => ltO o key (hd 0 y) | none => true) = true
    rw [hy]
    exact cut_mono (ord_ltO o) HS.out (by rw [← HN.out]; exact hi1) hy
  rintro e w' ⟨rfl, hb'⟩
  have HB' : Hid (Below w.heap.size w w') := HB.out.trans (hb'.mono HB.out.size)
  clear hb'
  by_cases h0 : 0 < n
  · have d0 : decide ((0 : Int) < (n : Int)) = true := by simp; omega
    have hw : IntKind.i64.wrap ((n : Int) - 1) = ((n - 1 : Nat) : Int) := by rw [IntKind.wrap_i64]; omega
    go_wp2_with fail
    go_ret
    refine ⟨?_, HB'.out⟩
    rw [← HN.out]
    first | rfl | (congr 2; omega)
  · have d0 : decide ((0 : Int) < (n : Int)) = false := by simp; omega
    obtain rfl : n = 0 := by omega
    go_wp2_with fail
    go_ret
    refine ⟨?_, HB'.out⟩
    rw [← HN.out]
    rfl
end Go.Proofs.Ytefigjdebakccaa
