/- What a sorted map tells forth and back. -/
import Derived.Test.YtefigjdebakccaaItI
namespace Go.Proofs.Ytefigjdebakccaa
open Go.RowKit

theorem info_parts {t : TypeId} {z : Option Value} {s b : Nat} (h : (Try.prog.info? t).map (fun i => (i.zero, i.size, i.bytes)) = some (z, s, b)) : ∃ i, Try.prog.info? t = some i ∧ i.zero = z ∧ i.size = s ∧ i.bytes = b := by
  cases hq : Try.prog.info? t with
  | none => rw [hq] at h; cases h
  | some i =>
    rw [hq] at h
    simp only [Option.map_some, Option.some.injEq, Prod.mk.injEq] at h
    exact ⟨i, rfl, h.1, h.2.1, h.2.2⟩
theorem info3 : (Try.prog.info? 3).map (fun i => (i.zero, i.size, i.bytes)) = some (some (.int .i64 0), 1, 8) := by kernel_rfl
/-- two slices that lie in no block together -/
def Off (v1 v2 : Value) : Prop := ∀ k, v1.ownBlock = some k → v2.ownBlock ≠ some k
theorem Off.symm {v1 v2 : Value} (h : Off v1 v2) : Off v2 v1 := fun k h1 h2 => h k h2 h1
theorem Off.ne {v1 v2 : Value} (h : Off v1 v2) : v2.ownBlock = none ∨ v2.ownBlock ≠ v1.ownBlock := by
  rcases hv : v1.ownBlock with _ | k
  · rcases hu : v2.ownBlock with _ | j
    · exact .inl rfl
    · exact .inr (by simp)
  · exact .inr (h k hv)
theorem off_nil (v : Value) : Off (.slice none 0 0) v := fun k h => by cases h
/-- one of two rows grows -/
theorem off_grow {A w' : World} {B s n H : Nat} {e : TypeId} {v1 v1' v2 : Value} {cs : List Value} (hH : A.heap.size = H) (h2 : A.ownsRow B e s v2 n cs) (ho : Off v1 v2) (hg : A.grownBy w' v1.ownBlock) (hat : v1'.ownBlock = v1.ownBlock ∨ v1'.ownBlock = some H) : w'.ownsRow B e s v2 n cs ∧ Off v1' v2 :=
  ⟨h2.kept hg ho.ne, fun k hk h => by
    rcases hat with e | e
    · exact ho k (e.symm.trans hk) h
    · rw [e] at hk
      have h3 := (h2.lt k h).2
      have := Option.some.inj hk
      omega⟩
def kcells (es : List (Int × Int)) : List Value := es.map fun e => .int .i64 e.1
def vcells (es : List (Int × Int)) : List Value := es.map fun e => .int .i64 e.2
/-- two rows: keys and values -/
def TR (w : World) (H : Nat) (kv vv : Value) (es : List (Int × Int)) : Prop := w.ownsRow H 3 1 kv es.length (kcells es) ∧ w.ownsRow H 3 1 vv es.length (vcells es) ∧ Off kv vv
theorem St.keep {w w' : World} {ib mb : Nat} {all : List (Int × Int)} {p : Option Nat} (n : St w ib mb all p) {B : Nat} (hb : Below B w w') (hs : Stay w w') (hib : ib < B) : St w' ib mb all p := n.stay hs fun arr ha => by rw [hb.block ib hib]; exact ha
theorem grown_stay {A w1 w2 : World} {base size n : Nat} {e : TypeId} {v : Value} {xs : List Value} (ho : A.ownsRow base e size v n xs) (hb : Below A.heap.size A w1) (hg : w1.grownBy w2 v.ownBlock) (hne : ¬ Own e) : Stay A w2 := fun b c t h1 ht => by
  have hlt : b < w1.heap.size := Nat.lt_of_lt_of_le (lt_of_block h1) hb.size
  rw [hg.block b hlt, hb.block b (lt_of_block h1)]
  · exact h1
  · intro e1
    rcases ho.2 with ⟨h2, _⟩ | ⟨g, cap, cur, h2, h3, h4, h5⟩
    · rw [h2] at e1; cases e1
    · rw [h2] at e1
      obtain rfl := Option.some.inj e1
      rw [h4] at h1
      simp only [Option.some.injEq, Obj.cells.injEq] at h1
      exact hne (h1.2.1 ▸ ht)
theorem own3 : ¬ Own 3 := by unfold Own; simp


set_option maxRecDepth 100000 in
set_option maxHeartbeats 3200000 in
theorem forth_w (ib mb : Nat) (all : List (Int × Int)) (w : World) (hl : all.length < 1000000) (hib : ib < w.heap.size) (hst0 : St w ib mb all (pos all 0)) :
    Calls Try.prog 56 #[.pointer (some ⟨ib, 0, none⟩)] w fun e w' => ∃ kv vv, e = .returned (.tuple #[kv, vv]) ∧ TR w' w.heap.size kv vv (all) ∧ But (· = ib) w w' := by
  obtain ⟨i3, hi, hz0, hz1, hz2⟩ := info_parts info3
  have HI := Lib.hid (And.intro hi (And.intro hz0 (And.intro hz1 hz2)))
  clear hi hz0 hz1 hz2
  have HIB := Lib.hid hib
  have HST0 := Lib.hid hst0
  clear hst0
  have HL := Lib.hid hl
  clear hib hl
  go_enter Try.func56, Try.ntmps56
  go_wp2_with fail
  go_loopg [2, 3] all.length (fun k kv vv wr => ∃ i : Nat, i + k = all.length ∧ St wr ib mb all (pos all i) ∧ TR wr w.heap.size kv vv (all.take i) ∧ But (· = ib) w wr)
  case atStart => exact ⟨0, by omega, HST0.out, by rw [List.take_zero]; exact ⟨World.ownsRow_nil _ _ _ _, World.ownsRow_nil _ _ _ _, off_nil _⟩, But.refl _ _⟩
  case round =>
    obtain ⟨i, hik, hst, htr, hb⟩ := hrel
    by_cases hlt : i < all.length
    · obtain ⟨y, hy⟩ : ∃ y, all[i]? = some y := ⟨_, List.getElem?_eq_getElem hlt⟩
      rw [pos_some hlt] at hst
      have hnext := inext_some hst hy
      have HNX := Lib.hid hnext
      have HD := Lib.hid (done_w hst)
      have HTR := Lib.hid htr
      have HB := Lib.hid hb
      have HSP : Hid (all.take (i + 1) = all.take i ++ [y]) := by rw [List.take_add_one, hy]; rfl
      have hlen : ((all.take i)).length < 1000000 := by
        have := HL.out
        simp only [List.length_take]
        omega
      obtain ⟨lst, hlst⟩ : ∃ lst, lst = (all.take i) := ⟨_, rfl⟩
      rw [← hlst] at HTR HSP hlen
      have HLEN := Lib.hid hlen
      clear hst htr hb hnext hy hlst hlen
      obtain ⟨y1, y2⟩ := y
      go_wp2_with fail
      refine HD.out.mono ?_
      rintro e w' ⟨rfl, rfl⟩
      simp only [Option.isNone_some]
      go_wp2_with fail
      refine HNX.out.mono ?_
      rintro e w2 ⟨rfl, hb2, hst2⟩
      have HST2 := Lib.hid hst2
      have HK2 := Lib.hid (own_but HTR.out.1 hb2 fun k hk e1 => by have := (HTR.out.1.lt k hk).1; have := HIB.out; omega)
      have HV2 := Lib.hid (own_but HTR.out.2.1 hb2 fun k hk e1 => by have := (HTR.out.2.1.lt k hk).1; have := HIB.out; omega)
      have HOF := Lib.hid HTR.out.2.2
      have HB2 := Lib.hid (HB.out.trans hb2)
      have HW2 : Hid (w.heap.size ≤ w2.heap.size) := HB2.out.size
      clear hb2 hst2 HTR HB HD HNX
      go_wp2_with (at_builtin; refine wpList_append_own_at _ rfl (.tmp 18) (.tmp 20) 22 rfl w.heap.size 3 i3 (.int .i64 0) 1 8 Try.underlying22 HI.out.1 HI.out.2.1 HI.out.2.2.1 HI.out.2.2.2 rfl (by decide) _ _ _ rfl (HK2.out.alloc _) ⟨w2.heap.size, 0, none⟩ 1 1 [.int .i64 y1] rfl rfl (new_cell _ _ _) (one_oneCell rfl) (by have := HLEN.out; unfold maxLen; omega) (by have := HLEN.out; omega) (by have := HW2.out; rw [size_alloc]; omega) ?_)
      intro v4 w4 hown4 hgrow4 _ hat4
      have hA2 : Below w2.heap.size w2 (w2.alloc (.cells #[.int .i64 y1] 3)) := (Below.refl _ _).alloc (Nat.le_refl _) _
      obtain ⟨hv4, hof4⟩ := off_grow (size_alloc _ _) (HV2.out.alloc (.cells #[.int .i64 y1] 3)) HOF.out hgrow4 hat4
      have HK4 := Lib.hid hown4
      have HV4 := Lib.hid hv4
      have HOF4 := Lib.hid hof4
      have HBW := Lib.hid (below_grown ((Below.refl w.heap.size w2).alloc HW2.out (.cells #[.int .i64 y1] 3)) HK2.out (Nat.le_refl _) HW2.out hgrow4)
      have HST4 : Hid (St w4 ib mb all (pos all (i + 1))) := HST2.out.keep HBW.out ((Stay.of_below hA2).trans (grown_stay (HK2.out.alloc _) (Below.refl _ _) hgrow4 own3)) HIB.out
      have HB4 : Hid (But (· = ib) w w4) := ⟨HBW.out.os.trans HB2.out.os, HBW.out.tape.trans HB2.out.tape, HBW.out.output.trans HB2.out.output, Nat.le_trans HB2.out.size HBW.out.size, fun k hk hs => (HBW.out.block k hk).trans (HB2.out.block k hk hs)⟩
      have HW4 : Hid (w.heap.size ≤ w4.heap.size) := HB4.out.size
      clear hown4 hgrow4 hat4 hA2 hv4 hof4 HBW HK2 HV2 HOF HST2 HB2 HW2
      go_wp2_with (at_builtin; refine wpList_append_own_at _ rfl (.tmp 22) (.tmp 24) 22 rfl w.heap.size 3 i3 (.int .i64 0) 1 8 Try.underlying22 HI.out.1 HI.out.2.1 HI.out.2.2.1 HI.out.2.2.2 rfl (by decide) _ _ _ rfl (HV4.out.alloc _) ⟨w4.heap.size, 0, none⟩ 1 1 [.int .i64 y2] rfl rfl (new_cell _ _ _) (one_oneCell rfl) (by have := HLEN.out; unfold maxLen; omega) (by have := HLEN.out; omega) (by have := HW4.out; rw [size_alloc]; omega) ?_)
      intro v6 w6 hown6 hgrow6 _ hat6
      have hA4 : Below w4.heap.size w4 (w4.alloc (.cells #[.int .i64 y2] 3)) := (Below.refl _ _).alloc (Nat.le_refl _) _
      obtain ⟨hk6, hof6⟩ := off_grow (size_alloc _ _) (HK4.out.alloc (.cells #[.int .i64 y2] 3)) HOF4.out.symm hgrow6 hat6
      have HV6 := Lib.hid hown6
      have HK6 := Lib.hid hk6
      have HOF6 := Lib.hid hof6
      have HBW := Lib.hid (below_grown ((Below.refl w.heap.size w4).alloc HW4.out (.cells #[.int .i64 y2] 3)) HV4.out (Nat.le_refl _) HW4.out hgrow6)
      have HST6 : Hid (St w6 ib mb all (pos all (i + 1))) := HST4.out.keep HBW.out ((Stay.of_below hA4).trans (grown_stay (HV4.out.alloc _) (Below.refl _ _) hgrow6 own3)) HIB.out
      have HB6 : Hid (But (· = ib) w w6) := ⟨HBW.out.os.trans HB4.out.os, HBW.out.tape.trans HB4.out.tape, HBW.out.output.trans HB4.out.output, Nat.le_trans HB4.out.size HBW.out.size, fun k hk hs => (HBW.out.block k hk).trans (HB4.out.block k hk hs)⟩
      clear hown6 hgrow6 hat6 hA4 hk6 hof6 HBW HK4 HV4 HOF4 HST4 HB4 HW4
      go_wp2_with fail
      go_roundg (gk - 1)
      case measure => omega
      case rel =>
        refine ⟨i + 1, by omega, HST6.out, ?_, HB6.out⟩
        rw [HSP.out]
        refine ⟨?_, ?_, HOF6.out.symm⟩
        · unfold kcells; rw [List.map_append, List.length_append]; exact HK6.out
        · unfold vcells; rw [List.map_append, List.length_append]; exact HV6.out
    · obtain rfl : i = all.length := by omega
      rw [pos_none] at hst
      have HD := Lib.hid (done_w hst)
      rw [List.take_length] at htr
      have HTR := Lib.hid htr
      have HB := Lib.hid hb
      clear hst htr hb
      go_wp2_with fail
      refine HD.out.mono ?_
      rintro e w' ⟨rfl, rfl⟩
      simp only [Option.isNone_none]
      go_wp2_with fail
      go_ret2
      exact ⟨_, _, rfl, HTR.out, HB.out⟩


set_option maxRecDepth 100000 in
set_option maxHeartbeats 3200000 in
theorem back_w (o k : Nat) (ib mb : Nat) (all : List (Int × Int)) (w : World) (hl : all.length < 1000000) (hib : ib < w.heap.size) (hk : k < 900) (arr : Array Value) (dd : Int) (hitb : ItB w ib mb arr dd) (hmap : SMapAt w mb o k all) :
    Calls Try.prog 58 #[.pointer (some ⟨ib, 0, none⟩)] w fun e w' => ∃ kv vv, e = .returned (.tuple #[kv, vv]) ∧ TR w' w.heap.size kv vv (all.reverse) ∧ But (· = ib) w w' := by
  obtain ⟨i3, hi, hz0, hz1, hz2⟩ := info_parts info3
  have HI := Lib.hid (And.intro hi (And.intro hz0 (And.intro hz1 hz2)))
  clear hi hz0 hz1 hz2
  have HIB := Lib.hid hib
  have HITB := Lib.hid hitb
  have HMAP := Lib.hid hmap
  clear hitb hmap
  have HL := Lib.hid hl
  clear hib hl
  go_enter Try.func58, Try.ntmps58
  go_wp2_with fail
  refine (ilast_w hk HITB.out HMAP.out).mono ?_
  rintro e w1 ⟨rfl, hb1, hst⟩
  have HST0 := Lib.hid hst
  have HB0 := Lib.hid hb1
  clear hst hb1
  go_wp2_with fail
  go_loopg [2, 3] all.length (fun k kv vv wr => ∃ i : Nat, k = i ∧ i ≤ all.length ∧ St wr ib mb all (ppos i) ∧ TR wr w.heap.size kv vv (all.drop i).reverse ∧ But (· = ib) w wr)
  case atStart => exact ⟨all.length, rfl, Nat.le_refl _, HST0.out, by rw [List.drop_length]; exact ⟨World.ownsRow_nil _ _ _ _, World.ownsRow_nil _ _ _ _, off_nil _⟩, HB0.out⟩
  case round =>
    obtain ⟨i, hik, hle, hst, htr, hb⟩ := hrel
    by_cases hlt : 0 < i
    · obtain ⟨j, rfl⟩ : ∃ j, i = j + 1 := ⟨i - 1, by omega⟩
      obtain ⟨y, hy⟩ : ∃ y, all[j]? = some y := ⟨_, List.getElem?_eq_getElem (by omega)⟩
      rw [ppos_some] at hst
      have hnext := iprev_some hst hy
      have HNX := Lib.hid hnext
      have HD := Lib.hid (done_w hst)
      have HTR := Lib.hid htr
      have HB := Lib.hid hb
      have HSP : Hid ((all.drop j).reverse = (all.drop (j + 1)).reverse ++ [y]) := by
        obtain ⟨hl, he⟩ := List.getElem?_eq_some_iff.1 hy
        rw [show all.drop j = y :: all.drop (j + 1) from by rw [List.drop_eq_getElem_cons hl, he], List.reverse_cons]
        exact Lib.hid rfl
      have hlen : ((all.drop (j + 1)).reverse).length < 1000000 := by
        have := HL.out
        simp only [List.length_reverse, List.length_drop]
        omega
      obtain ⟨lst, hlst⟩ : ∃ lst, lst = (all.drop (j + 1)).reverse := ⟨_, rfl⟩
      rw [← hlst] at HTR HSP hlen
      have HLEN := Lib.hid hlen
      clear hst htr hb hnext hy hlst hlen
      obtain ⟨y1, y2⟩ := y
      go_wp2_with fail
      refine HD.out.mono ?_
      rintro e w' ⟨rfl, rfl⟩
      simp only [Option.isNone_some]
      go_wp2_with fail
      refine HNX.out.mono ?_
      rintro e w2 ⟨rfl, hb2, hst2⟩
      have HST2 := Lib.hid hst2
      have HK2 := Lib.hid (own_but HTR.out.1 hb2 fun k hk e1 => by have := (HTR.out.1.lt k hk).1; have := HIB.out; omega)
      have HV2 := Lib.hid (own_but HTR.out.2.1 hb2 fun k hk e1 => by have := (HTR.out.2.1.lt k hk).1; have := HIB.out; omega)
      have HOF := Lib.hid HTR.out.2.2
      have HB2 := Lib.hid (HB.out.trans hb2)
      have HW2 : Hid (w.heap.size ≤ w2.heap.size) := HB2.out.size
      clear hb2 hst2 HTR HB HD HNX
      go_wp2_with (at_builtin; refine wpList_append_own_at _ rfl (.tmp 20) (.tmp 22) 22 rfl w.heap.size 3 i3 (.int .i64 0) 1 8 Try.underlying22 HI.out.1 HI.out.2.1 HI.out.2.2.1 HI.out.2.2.2 rfl (by decide) _ _ _ rfl (HK2.out.alloc _) ⟨w2.heap.size, 0, none⟩ 1 1 [.int .i64 y1] rfl rfl (new_cell _ _ _) (one_oneCell rfl) (by have := HLEN.out; unfold maxLen; omega) (by have := HLEN.out; omega) (by have := HW2.out; rw [size_alloc]; omega) ?_)
      intro v4 w4 hown4 hgrow4 _ hat4
      have hA2 : Below w2.heap.size w2 (w2.alloc (.cells #[.int .i64 y1] 3)) := (Below.refl _ _).alloc (Nat.le_refl _) _
      obtain ⟨hv4, hof4⟩ := off_grow (size_alloc _ _) (HV2.out.alloc (.cells #[.int .i64 y1] 3)) HOF.out hgrow4 hat4
      have HK4 := Lib.hid hown4
      have HV4 := Lib.hid hv4
      have HOF4 := Lib.hid hof4
      have HBW := Lib.hid (below_grown ((Below.refl w.heap.size w2).alloc HW2.out (.cells #[.int .i64 y1] 3)) HK2.out (Nat.le_refl _) HW2.out hgrow4)
      have HST4 : Hid (St w4 ib mb all (ppos j)) := HST2.out.keep HBW.out ((Stay.of_below hA2).trans (grown_stay (HK2.out.alloc _) (Below.refl _ _) hgrow4 own3)) HIB.out
      have HB4 : Hid (But (· = ib) w w4) := ⟨HBW.out.os.trans HB2.out.os, HBW.out.tape.trans HB2.out.tape, HBW.out.output.trans HB2.out.output, Nat.le_trans HB2.out.size HBW.out.size, fun k hk hs => (HBW.out.block k hk).trans (HB2.out.block k hk hs)⟩
      have HW4 : Hid (w.heap.size ≤ w4.heap.size) := HB4.out.size
      clear hown4 hgrow4 hat4 hA2 hv4 hof4 HBW HK2 HV2 HOF HST2 HB2 HW2
      go_wp2_with (at_builtin; refine wpList_append_own_at _ rfl (.tmp 24) (.tmp 26) 22 rfl w.heap.size 3 i3 (.int .i64 0) 1 8 Try.underlying22 HI.out.1 HI.out.2.1 HI.out.2.2.1 HI.out.2.2.2 rfl (by decide) _ _ _ rfl (HV4.out.alloc _) ⟨w4.heap.size, 0, none⟩ 1 1 [.int .i64 y2] rfl rfl (new_cell _ _ _) (one_oneCell rfl) (by have := HLEN.out; unfold maxLen; omega) (by have := HLEN.out; omega) (by have := HW4.out; rw [size_alloc]; omega) ?_)
      intro v6 w6 hown6 hgrow6 _ hat6
      have hA4 : Below w4.heap.size w4 (w4.alloc (.cells #[.int .i64 y2] 3)) := (Below.refl _ _).alloc (Nat.le_refl _) _
      obtain ⟨hk6, hof6⟩ := off_grow (size_alloc _ _) (HK4.out.alloc (.cells #[.int .i64 y2] 3)) HOF4.out.symm hgrow6 hat6
      have HV6 := Lib.hid hown6
      have HK6 := Lib.hid hk6
      have HOF6 := Lib.hid hof6
      have HBW := Lib.hid (below_grown ((Below.refl w.heap.size w4).alloc HW4.out (.cells #[.int .i64 y2] 3)) HV4.out (Nat.le_refl _) HW4.out hgrow6)
      have HST6 : Hid (St w6 ib mb all (ppos j)) := HST4.out.keep HBW.out ((Stay.of_below hA4).trans (grown_stay (HV4.out.alloc _) (Below.refl _ _) hgrow6 own3)) HIB.out
      have HB6 : Hid (But (· = ib) w w6) := ⟨HBW.out.os.trans HB4.out.os, HBW.out.tape.trans HB4.out.tape, HBW.out.output.trans HB4.out.output, Nat.le_trans HB4.out.size HBW.out.size, fun k hk hs => (HBW.out.block k hk).trans (HB4.out.block k hk hs)⟩
      clear hown6 hgrow6 hat6 hA4 hk6 hof6 HBW HK4 HV4 HOF4 HST4 HB4 HW4
      go_wp2_with fail
      go_roundg j
      case measure => omega
      case rel =>
        refine ⟨j, rfl, by omega, HST6.out, ?_, HB6.out⟩
        rw [HSP.out]
        refine ⟨?_, ?_, HOF6.out.symm⟩
        · unfold kcells; rw [List.map_append, List.length_append]; exact HK6.out
        · unfold vcells; rw [List.map_append, List.length_append]; exact HV6.out
    · obtain rfl : i = 0 := by omega
      rw [ppos_none] at hst
      have HD := Lib.hid (done_w hst)
      rw [List.drop_zero] at htr
      have HTR := Lib.hid htr
      have HB := Lib.hid hb
      clear hst htr hb
      go_wp2_with fail
      refine HD.out.mono ?_
      rintro e w' ⟨rfl, rfl⟩
      simp only [Option.isNone_none]
      go_wp2_with fail
      go_ret2
      exact ⟨_, _, rfl, HTR.out, HB.out⟩

end Go.Proofs.Ytefigjdebakccaa
