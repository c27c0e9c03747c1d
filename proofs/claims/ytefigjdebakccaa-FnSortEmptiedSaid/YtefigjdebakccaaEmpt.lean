/- Laws' helpers for FnSortEmptied: EqualFunc with its closure; what deleting leaves. -/
import Derived.Test.YtefigjdebakccaaEqf
import Derived.Test.YtefigjdebakccaaPln
import Derived.Test.YtefigjdebakccaaDel
import Derived.Test.YtefigjdebakccaaAsk
namespace Go.Proofs.Ytefigjdebakccaa
open Go.RowKit

/-- without the key at a place -/
theorem del_at {lt : Int → Int → Bool} (o : Ord lt) {es : Es} (hs : Srt lt es) {k : Nat} {key : Int} (hk : (es.map (·.1))[k]? = some key) : (del lt es key).map (·.1) = (es.map (·.1)).eraseIdx k := by
  refine srtK_ext o (srtK_of (del_srt o hs key)) ?_ fun e => ?_
  · exact (srtK_of hs).sublist (List.eraseIdx_sublist _ _)
  · have hnd : (es.map (·.1)).Nodup := (srtK_of hs).imp fun h e => by subst e; rw [o.irrefl] at h; cases h
    rw [List.mem_map]
    constructor
    · rintro ⟨y, hy, rfl⟩
      obtain ⟨h1, h2⟩ := (mem_del o hs key y).1 hy
      obtain ⟨i, hi⟩ := List.getElem?_of_mem (List.mem_map_of_mem (f := (·.1)) h1)
      refine List.mem_eraseIdx_iff_getElem?.2 ⟨i, ?_, hi⟩
      rintro rfl
      rw [hk] at hi
      exact h2 (Option.some.inj hi).symm
    · intro he
      obtain ⟨i, hik, hi⟩ := List.mem_eraseIdx_iff_getElem?.1 he
      obtain ⟨y, hy, rfl⟩ := List.mem_map.1 (List.mem_of_getElem? hi)
      refine ⟨y, (mem_del o hs key y).2 ⟨hy, fun h => hik ?_⟩, rfl⟩
      rw [h] at hi
      exact (List.getElem?_inj (List.getElem?_eq_some_iff.1 hi).1 hnd).1 (by rw [hi, hk])

theorem right_cat (lt : Int → Int → Bool) : ∀ (a : List Stp) (vs : List Es) (b : List Stp), Right vs.length a → Right (vers lt vs a).length b → Right vs.length (a ++ b)
  | [], _, _, _, h => h
  | s :: a, vs, b, ⟨h1, h2, h3, h4, h5⟩, h => by
    refine ⟨h1, h2, h3, h4, ?_⟩
    have e := next_len lt vs s
    rw [← e] at h5 ⊢
    exact right_cat lt a _ b h5 h
/-- where the deleting stands: the steps so far, the newest version, its keys -/
def EmS (lt : Int → Int → Bool) (S : List Stp) (made : Nat) (left : List Int) : Prop :=
  Right 1 S ∧ (vers lt [[]] S).length = made + 1 ∧ (∀ s ∈ S, s.moves = []) ∧ ∃ es, (vers lt [[]] S)[made]? = some es ∧ Srt lt es ∧ es.map (·.1) = left
theorem ver_of {vs : List Es} {s : Stp} {es : Es} (h : vs[s.on]? = some es) : verOf vs s = es := by
  show vs.getD s.on [] = es
  rw [List.getD_eq_getElem?_getD, h]
  rfl
theorem EmS.gone {lt : Int → Int → Bool} (o : Ord lt) {S : List Stp} {made k : Nat} {left : List Int} {key : Int} (h : EmS lt S made left) (hk : left[k]? = some key) : EmS lt (S ++ [⟨1, made, key, 0, []⟩]) (made + 1) (left.eraseIdx k) := by
  obtain ⟨h1, h2, h3, es, h4, h5, h6⟩ := h
  have hv : vers lt [[]] (S ++ [⟨1, made, key, 0, []⟩]) = vers lt [[]] S ++ [del lt es key] := by
    rw [vers_app]
    show next lt (vers lt [[]] S) ⟨1, made, key, 0, []⟩ = _
    unfold next
    rw [if_neg (show ¬ 1 = 0 by decide), if_pos rfl, ver_of (s := ⟨1, made, key, 0, []⟩) h4]
  refine ⟨right_cat lt S [[]] _ h1 ?_, by rw [hv, List.length_append, h2]; rfl, fun s hs => ?_, del lt es key, ?_, del_srt o h5 key, ?_⟩
  · rw [h2]
    exact ⟨Nat.lt_succ_self _, (by decide : 1 ≤ 6), nofun, by simp, trivial⟩
  · rcases List.mem_append.1 hs with hs | hs
    · exact h3 s hs
    · rw [List.mem_singleton.1 hs]
  · rw [hv, List.getElem?_append_right (by omega), h2, Nat.sub_self]
    rfl
  · rw [← h6] at hk ⊢
    exact del_at o h5 hk
theorem EmS.ask {lt : Int → Int → Bool} {S : List Stp} {made : Nat} {left : List Int} (h : EmS lt S made left) (op : Nat) (ho : 2 ≤ op ∧ op ≤ 6) : EmS lt (S ++ [⟨op, made, 0, 0, []⟩]) made left := by
  obtain ⟨h1, h2, h3, es, h4, h5, h6⟩ := h
  have hv : vers lt [[]] (S ++ [⟨op, made, 0, 0, []⟩]) = vers lt [[]] S := by
    rw [vers_app]
    show next lt (vers lt [[]] S) ⟨op, made, 0, 0, []⟩ = _
    unfold next
    rw [if_neg (show ¬ op = 0 by omega), if_neg (show ¬ op = 1 by omega)]
  refine ⟨right_cat lt S [[]] _ h1 ?_, by rw [hv, h2], fun s hs => ?_, es, by rw [hv]; exact h4, h5, h6⟩
  · rw [h2]
    exact ⟨Nat.lt_succ_self _, ho.2, nofun, by simp, trivial⟩
  · rcases List.mem_append.1 hs with hs | hs
    · exact h3 s hs
    · rw [List.mem_singleton.1 hs]
/-- at the end: a walk over nothing -/
theorem EmS.walk {lt : Int → Int → Bool} {S : List Stp} {made : Nat} (h : EmS lt S made []) (ms : List Mv) (hm : ∀ m ∈ ms, m.1 ≤ 5) (hl : ms.length ≤ 100000) :
    Right 1 (S ++ [⟨6, made, 0, 0, ms⟩]) ∧ (run lt [[]] (S ++ [⟨6, made, 0, 0, ms⟩]))[S.length]? = some ⟨0, false, [], [], seens lt [] (pos [] 0) ms⟩ := by
  obtain ⟨h1, h2, h3, es, h4, h5, h6⟩ := h
  obtain rfl : es = [] := List.map_eq_nil_iff.1 h6
  refine ⟨right_cat lt S [[]] _ h1 ?_, ?_⟩
  · rw [h2]
    exact ⟨Nat.lt_succ_self _, (by decide : 6 ≤ 6), hm, hl, trivial⟩
  · rw [run_app, List.getElem?_append_right (by rw [run_len]; exact Nat.le_refl _), run_len, Nat.sub_self]
    show some (tell lt (verOf (vers lt [[]] S) ⟨6, made, 0, 0, ms⟩) ⟨6, made, 0, 0, ms⟩) = _
    rw [ver_of (s := ⟨6, made, 0, 0, ms⟩) h4]
    rfl
theorem EmS.start {lt : Int → Int → Bool} (o : Ord lt) (xs : List Int) : EmS lt (filled xs) xs.length ((fill lt 0 xs []).map (·.1)) := by
  obtain ⟨h1, h2⟩ := vers_fill lt xs 0 [[]] [] rfl rfl
  refine ⟨right_fill xs 0 [] trivial |> fun h => by rw [List.append_nil] at h; exact h, by show (vers lt [[]] (fillFrom 0 xs)).length = _; rw [h1]; omega, fun s hs => ?_, fill lt 0 xs [], ?_, fill_srt o xs 0 List.Pairwise.nil, rfl⟩
  · obtain ⟨i, hi⟩ := List.getElem?_of_mem hs
    exact (fcells_at xs 0 i s hi).2.2.2.2.2
  · rw [Nat.zero_add] at h2
    exact h2

set_option maxRecDepth 100000 in
set_option maxHeartbeats 3200000 in
theorem eqf40_w (u v : Value) (ts : List Told) (hl : ts.length ≤ 1000000) (hsh : ∀ t ∈ ts, Short t) (w : World) (hu : TldV w u ts) (hv : TldP w v ts) :
    Calls Try.prog 28 #[u, v, Value.func (.func 40) #[] #[]] w fun e w' => e = .returned (.bool true) ∧ Below w.heap.size w w' := by
  have HSH := Lib.hid hsh
  have HU := Lib.hid hu
  have HV := Lib.hid hv
  obtain ⟨ua, uc, rfl, -⟩ := hu
  obtain ⟨va, vc, rfl, -⟩ := hv
  obtain ⟨n, hn⟩ : ∃ n, n = ts.length := ⟨_, rfl⟩
  rw [← hn] at HU HV hl ⊢
  have HN := Lib.hid hn
  clear hn hsh
  have dn : ((n : Int) != (n : Int)) = false := by simp
  go_enter Try.func28, Try.ntmps28
  go_wp2_with fail
  go_loopg [7, 17] n (fun k v7 v wr => ∃ j : Nat, j + k = n ∧ v = .int .i64 (j : Int) ∧ Below w.heap.size w wr)
  case atStart => exact ⟨0, by omega, rfl, Below.refl _ _⟩
  case round =>
    obtain ⟨j, hjk, rfl, hb⟩ := hrel
    have HB := Lib.hid hb
    clear hb
    by_cases hlt : j < n
    · have h1 : decide ((j : Int) < (n : Int)) = true := by simp; omega
      have hw1 : IntKind.i64.wrap ((j : Int) + 1) = (j : Int) + 1 := by rw [IntKind.wrap_i64]; omega
      have hj0 : (0 : Int) ≤ (j : Int) := by omega
      have hj1 : (j : Int) < (n : Int) := by omega
      obtain ⟨t, ht⟩ : ∃ t, ts[j]? = some t := ⟨_, List.getElem?_eq_getElem (by rw [← HN.out]; exact hlt)⟩
      have HST := Lib.hid (HSH.out t (List.mem_of_getElem? ht))
      obtain ⟨a1, cc1, ev1, hr1⟩ := HU.out.below HB.out
      obtain ⟨a2, cc2, ev2, hr2⟩ := HV.out.below HB.out
      simp only [Value.slice.injEq] at ev1 ev2
      obtain ⟨g1, q1, k1, v1, s1, ea1, p0, p1, p2, p3, p4, hk1, hv1, hs1⟩ := hr1 j t ht
      obtain ⟨g2, q2, k2, v2, s2, ea2, r0, r1, r2, r3, r4, hk2, hv2, hs2⟩ := hr2 j t ht
      have hma1 : ua = some ⟨g1, q1, none⟩ := ev1.1.trans ea1
      have hma2 : va = some ⟨g2, q2, none⟩ := ev2.1.trans ea2
      subst hma1 hma2
      have HTA : Hid (ToA wr t (.agg #[.int .i64 t.val, .bool t.yes, k1, v1, s1])) := ⟨k1, v1, s1, rfl, hk1, hv1, hs1⟩
      have HTB : Hid (ToB wr t (.agg #[.int .i64 t.val, .bool t.yes, k2, v2, s2])) := ⟨k2, v2, s2, rfl, hk2, hv2, hs2⟩
      obtain ⟨tv, htv⟩ : ∃ x, x = t.val := ⟨_, rfl⟩
      obtain ⟨ty, hty⟩ : ∃ x, x = t.yes := ⟨_, rfl⟩
      rw [← htv] at p0 r0 HTA HTB
      rw [← hty] at p1 r1 HTA HTB
      obtain ⟨nk, hnk⟩ : ∃ x, x = t.keys.length := ⟨_, rfl⟩
      obtain ⟨nv, hnv⟩ : ∃ x, x = t.vals.length := ⟨_, rfl⟩
      obtain ⟨ns, hns⟩ : ∃ x, x = t.seen.length := ⟨_, rfl⟩
      obtain ⟨ka1, kc1, e1⟩ := hk1.slice
      obtain ⟨ka2, kc2, e2⟩ := hk2.slice
      obtain ⟨va1, vc1, e3⟩ := hv1.slice
      obtain ⟨va2, vc2, e4⟩ := hv2.slice
      obtain ⟨sa1, sc1, e5⟩ := hs1.slice
      obtain ⟨sa2, sc2, e6⟩ := hs2.slice
      rw [← hnk] at e1 e2
      rw [← hnv] at e3 e4
      rw [← hns] at e5 e6
      clear ht ev1 ev2 hr1 hr2 ea1 ea2 hk1 hk2 hv1 hv2 hs1 hs2 htv hty hnk hnv hns
      subst e1 e2 e3 e4 e5 e6
      go_upto_region 6 with (fail)
      have hbx : Below wr.heap.size wr (wr.alloc (.cells #[.int .i64 tv, .bool ty, .slice ka1 nk kc1, .slice va1 nv vc1, .slice sa1 ns sc1] 35)) := (Below.refl _ _).alloc (Nat.le_refl _) _
      replace r0 := bcell hbx r0
      replace r1 := bcell hbx r1
      replace r2 := bcell hbx r2
      replace r3 := bcell hbx r3
      replace r4 := bcell hbx r4
      clear hbx p0 p1 p2 p3 p4
      go_upto_region 7 with (fail)
      have HX8 : Hid (((wr.alloc (.cells #[.int .i64 tv, .bool ty, .slice ka1 nk kc1, .slice va1 nv vc1, .slice sa1 ns sc1] 35)).alloc (.cells #[.int .i64 tv, .bool ty, .slice ka2 nk kc2, .slice va2 nv vc2, .slice sa2 ns sc2] 63)).heap[wr.heap.size]? = some (.cells #[.int .i64 tv, .bool ty, .slice ka1 nk kc1, .slice va1 nv vc1, .slice sa1 ns sc1] 35 (0, 0))) := at_alloc (heap_alloc_last wr _)
      have HX9 : Hid (((wr.alloc (.cells #[.int .i64 tv, .bool ty, .slice ka1 nk kc1, .slice va1 nv vc1, .slice sa1 ns sc1] 35)).alloc (.cells #[.int .i64 tv, .bool ty, .slice ka2 nk kc2, .slice va2 nv vc2, .slice sa2 ns sc2] 63)).heap[wr.heap.size + 1]? = some (.cells #[.int .i64 tv, .bool ty, .slice ka2 nk kc2, .slice va2 nv vc2, .slice sa2 ns sc2] 63 (0, 0))) := by
        have h := heap_alloc_last (wr.alloc (.cells #[.int .i64 tv, .bool ty, .slice ka1 nk kc1, .slice va1 nv vc1, .slice sa1 ns sc1] 35)) (.cells #[.int .i64 tv, .bool ty, .slice ka2 nk kc2, .slice va2 nv vc2, .slice sa2 ns sc2] 63)
        rw [size_alloc] at h
        exact h
      have hbx : Below wr.heap.size wr ((wr.alloc (.cells #[.int .i64 tv, .bool ty, .slice ka1 nk kc1, .slice va1 nv vc1, .slice sa1 ns sc1] 35)).alloc (.cells #[.int .i64 tv, .bool ty, .slice ka2 nk kc2, .slice va2 nv vc2, .slice sa2 ns sc2] 63)) := ((Below.refl _ _).alloc (Nat.le_refl _) _).alloc (by rw [size_alloc]; omega) _
      have HTA2 := Lib.hid (HTA.out.below hbx)
      have HTB2 := Lib.hid (HTB.out.below hbx)
      have HBX := Lib.hid (HB.out.trans (hbx.mono HB.out.size))
      clear hbx r0 r1 r2 r3 r4 HTA HTB
      generalize (wr.alloc (.cells #[.int .i64 tv, .bool ty, .slice ka1 nk kc1, .slice va1 nv vc1, .slice sa1 ns sc1] 35)).alloc (.cells #[.int .i64 tv, .bool ty, .slice ka2 nk kc2, .slice va2 nv vc2, .slice sa2 ns sc2] 63) = X at HX8 HX9 HTA2 HTB2 HBX ⊢
      obtain ⟨b8, hb8⟩ : ∃ b, b = wr.heap.size := ⟨_, rfl⟩
      obtain ⟨b9, hb9⟩ : ∃ b, b = b8 + 1 := ⟨_, rfl⟩
      rw [← hb8] at HX8 HX9 ⊢
      rw [← hb9] at HX9 ⊢
      clear hb8 hb9
      have x0 := cell_at (j := 0) HX8.out rfl
      have x1 := cell_at (j := 1) HX8.out rfl
      have x2 := cell_at (j := 2) HX8.out rfl
      have x3 := cell_at (j := 3) HX8.out rfl
      have x4 := cell_at (j := 4) HX8.out rfl
      have y0 := cell_at (j := 0) HX9.out rfl
      have y1 := cell_at (j := 1) HX9.out rfl
      have y2 := cell_at (j := 2) HX9.out rfl
      have y3 := cell_at (j := 3) HX9.out rfl
      have y4 := cell_at (j := 4) HX9.out rfl
      go_wp2_with fail
      refine (cl40_w t HST.out _ _ X HTA2.out HTB2.out).mono ?_
      rintro e w2 ⟨rfl, hb2⟩
      have HB2 := Lib.hid (HBX.out.trans (hb2.mono HBX.out.size))
      clear x0 x1 x2 x3 x4 y0 y1 y2 y3 y4 hb2
      go_wp2_with fail
      go_roundg (gk - 1)
      case measure => omega
      case rel => exact ⟨j + 1, by omega, rfl, HB2.out⟩
    · have h1 : decide ((j : Int) < (n : Int)) = false := by simp; omega
      go_wp2_with fail
      go_ret
      exact ⟨rfl, HB.out⟩

end Go.Proofs.Ytefigjdebakccaa
