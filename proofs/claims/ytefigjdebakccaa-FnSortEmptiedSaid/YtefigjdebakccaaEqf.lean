/- What steps told is what the reference says.

Lists of what steps told, compared. -/
import Derived.Test.YtefigjdebakccaaSRig
namespace Go.Proofs.Ytefigjdebakccaa
open Go.RowKit

set_option maxRecDepth 100000 in
set_option maxHeartbeats 400000 in
theorem fits8_w (op : Nat) (on key val : Int) (ma : Option Addr) (ml mc : Nat) (w : World) : Calls Try.prog 45 #[.agg #[.int .u8 (op : Int), .int .i64 on, .int .i64 key, .int .i64 val, .slice ma ml mc]] w fun e w' => ∃ b, e = .returned (.bool b) ∧ Below w.heap.size w w' := by
  have HX : Hid ((w.alloc (.cells #[.int .u8 (op : Int), .int .i64 on, .int .i64 key, .int .i64 val, .slice ma ml mc] 27)).heap[w.heap.size]? = some (.cells #[.int .u8 (op : Int), .int .i64 on, .int .i64 key, .int .i64 val, .slice ma ml mc] 27 (0, 0))) := heap_alloc_last w _
  have HB : Hid (Below w.heap.size w (w.alloc (.cells #[.int .u8 (op : Int), .int .i64 on, .int .i64 key, .int .i64 val, .slice ma ml mc] 27))) := (Below.refl _ _).alloc (Nat.le_refl _) _
  have y4 := cell_at (j := 4) HX.out rfl
  by_cases c1 : 2147483647 < ml
  · have d1 : decide ((2147483647 : Int) < (ml : Int)) = true := by simp; omega
    go_enter Try.func45, Try.ntmps45
    go_wp2_with fail
    go_ret
    exact ⟨_, rfl, HB.out⟩
  · have d1 : decide ((2147483647 : Int) < (ml : Int)) = false := by simp; omega
    go_enter Try.func45, Try.ntmps45
    go_wp2_with fail
    go_ret
    exact ⟨_, rfl, HB.out⟩

set_option maxRecDepth 100000 in
set_option maxHeartbeats 800000 in
theorem fits7_w (sv : Value) (l : List RSt) (w : World) (hs : RStpsV w sv l) :
    Calls Try.prog 22 #[sv] w fun e w' => ∃ b, e = .returned (.bool b) ∧ (b = true → l.length ≤ 2147483647) ∧ Below w.heap.size w w' := by
  have HS := Lib.hid hs
  obtain ⟨sa, scap, rfl, -⟩ := hs
  obtain ⟨n, hn⟩ : ∃ n, n = l.length := ⟨_, rfl⟩
  rw [← hn]
  have HN := Lib.hid hn
  clear hn
  go_enter Try.func22, Try.ntmps22
  by_cases c1 : 2147483647 < n
  · have d1 : decide ((2147483647 : Int) < (n : Int)) = true := by simp; omega
    go_wp2_with fail
    go_ret
    exact ⟨false, rfl, nofun, Below.refl _ _⟩
  have d1 : decide ((2147483647 : Int) < (n : Int)) = false := by simp; omega
  have HL : Hid (n ≤ 2147483647) := by show n ≤ 2147483647; omega
  clear c1
  go_wp2_with fail
  go_loopg [10] n (fun k v wr => ∃ j : Nat, j + k = n ∧ v = .int .i64 (j : Int) ∧ Below w.heap.size w wr)
  case atStart => exact ⟨0, by omega, rfl, Below.refl _ _⟩
  case round =>
    obtain ⟨j, hjk, rfl, hb⟩ := hrel
    have HB := Lib.hid hb
    clear hb
    by_cases hlt : j < n
    · have h1 : decide ((j : Int) < (n : Int)) = true := by simp; omega
      have hw1 : IntKind.i64.wrap ((j : Int) + 1) = (j : Int) + 1 := by have := HL.out; rw [IntKind.wrap_i64]; omega
      have hj0 : (0 : Int) ≤ (j : Int) := by omega
      have hj1 : (j : Int) < (n : Int) := by omega
      obtain ⟨s, hs⟩ : ∃ s, l[j]? = some s := ⟨_, List.getElem?_eq_getElem (by rw [← HN.out]; exact hlt)⟩
      obtain ⟨a, cap, hav, -, hread⟩ := HS.out.below HB.out
      simp only [Value.slice.injEq] at hav
      obtain ⟨g, q, mv, ha, c0, c1, c2, c3, c4, hmv⟩ := hread j s hs
      have hsa : sa = some ⟨g, q, none⟩ := hav.1.trans ha
      subst hsa
      obtain ⟨ma, mcap, rfl, -⟩ := hmv
      obtain ⟨op, on, key, val, moves⟩ := s
      obtain ⟨ml, hmll⟩ : ∃ ml, ml = moves.length := ⟨_, rfl⟩
      simp only [← hmll] at c4
      simp only at c0 c1 c2 c3
      clear hread hav ha hs hmll
      go_upto_region 6 with (fail)
      have hbx : Below wr.heap.size wr (wr.alloc (.cells #[.int .u8 (op : Int), .int .i64 on, .int .i64 key, .int .i64 val, .slice ma ml mcap] 27)) := (Below.refl _ _).alloc (Nat.le_refl _) _
      have HX : Hid ((wr.alloc (.cells #[.int .u8 (op : Int), .int .i64 on, .int .i64 key, .int .i64 val, .slice ma ml mcap] 27)).heap[wr.heap.size]? = some (.cells #[.int .u8 (op : Int), .int .i64 on, .int .i64 key, .int .i64 val, .slice ma ml mcap] 27 (0, 0))) := heap_alloc_last wr _
      have HBX := Lib.hid (HB.out.trans (hbx.mono HB.out.size))
      clear hbx c0 c1 c2 c3 c4
      generalize wr.alloc (.cells #[.int .u8 (op : Int), .int .i64 on, .int .i64 key, .int .i64 val, .slice ma ml mcap] 27) = X at HX HBX ⊢
      generalize wr.heap.size = b4 at HX ⊢
      have y0 := cell_at (j := 0) HX.out rfl
      have y1 := cell_at (j := 1) HX.out rfl
      have y2 := cell_at (j := 2) HX.out rfl
      have y3 := cell_at (j := 3) HX.out rfl
      have y4 := cell_at (j := 4) HX.out rfl
      go_wp2_with fail
      refine (fits8_w op on key val ma ml mcap X).mono ?_
      rintro e w2 ⟨b, rfl, hb2⟩
      have HB2 := Lib.hid (HBX.out.trans (hb2.mono HBX.out.size))
      clear hb2 y0 y1 y2 y3 y4
      cases b with
      | false =>
        go_wp2_with fail
        go_ret
        exact ⟨false, rfl, nofun, HB2.out⟩
      | true =>
        go_wp2_with fail
        go_roundg (gk - 1)
        case measure => omega
        case rel => exact ⟨j + 1, by omega, rfl, HB2.out⟩
    · have h1 : decide ((j : Int) < (n : Int)) = false := by simp; omega
      go_wp2_with fail
      go_ret
      exact ⟨true, rfl, fun _ => HL.out, HB.out⟩

theorem SV.reads {w : World} {v : Value} {l : List Sn} (h : SV w v l) : ∃ a c, v = .slice a l.length c ∧ ∀ (i : Nat) (x : Sn), l[i]? = some x → ∃ g, a = some ⟨g, 0, none⟩ ∧ w.cell? ⟨g, i * 3, none⟩ = some (.int .i64 x.1) ∧ w.cell? ⟨g, i * 3 + 1, none⟩ = some (.int .i64 x.2.1) ∧ w.cell? ⟨g, i * 3 + 2, none⟩ = some (.bool x.2.2) := by
  rcases h with ⟨rfl, rfl⟩ | ⟨g, c, cur, rfl, h2, h3⟩
  · exact ⟨none, 0, rfl, fun i x hx => by simp at hx⟩
  · exact ⟨_, c, rfl, fun i x hx => ⟨g, rfl, cell_at h2 (h3 i x hx).1, cell_at h2 (h3 i x hx).2.1, cell_at h2 (h3 i x hx).2.2⟩⟩
theorem SP.reads {w : World} {v : Value} {l : List Sn} (h : SP w v l) : ∃ a c, v = .slice a l.length c ∧ ∀ (i : Nat) (x : Sn), l[i]? = some x → ∃ g, a = some ⟨g, 0, none⟩ ∧ w.cell? ⟨g, i * 3, none⟩ = some (.int .i64 x.1) ∧ w.cell? ⟨g, i * 3 + 1, none⟩ = some (.int .i64 x.2.1) ∧ w.cell? ⟨g, i * 3 + 2, none⟩ = some (.bool x.2.2) := by
  rcases h with ⟨rfl, rfl⟩ | ⟨g, c, cur, rfl, h2, h3⟩
  · exact ⟨none, 0, rfl, fun i x hx => by simp at hx⟩
  · exact ⟨_, c, rfl, fun i x hx => ⟨g, rfl, cell_at h2 (h3 i x hx).1, cell_at h2 (h3 i x hx).2.1, cell_at h2 (h3 i x hx).2.2⟩⟩
/-- five values are what a step told -/
def ToA (w : World) (t : Told) (a : Value) : Prop := ∃ k v s, a = .agg #[.int .i64 t.val, .bool t.yes, k, v, s] ∧ IV w k t.keys ∧ IV w v t.vals ∧ SV w s t.seen
def ToB (w : World) (t : Told) (a : Value) : Prop := ∃ k v s, a = .agg #[.int .i64 t.val, .bool t.yes, k, v, s] ∧ IV w k t.keys ∧ IV w v t.vals ∧ SP w s t.seen
def Short (t : Told) : Prop := t.keys.length ≤ 1000000 ∧ t.vals.length ≤ 1000000 ∧ t.seen.length ≤ 1000000

set_option maxRecDepth 100000 in
set_option maxHeartbeats 1600000 in
theorem sortIs_w (t : Told) (hsh : Short t) (a b : Value) (w : World) (ha : ToA w t a) (hb : ToB w t b) :
    Calls Try.prog 30 #[a, b, .bool false] w fun e w' => e = .returned (.bool true) ∧ Below w.heap.size w w' := by
  obtain ⟨k1, v1, s1, rfl, hk1, hv1, hs1⟩ := ha
  obtain ⟨k2, v2, s2, rfl, hk2, hv2, hs2⟩ := hb
  obtain ⟨tv, ty, keys, vals, seen⟩ := t
  simp only at hk1 hv1 hs1 hk2 hv2 hs2 ⊢
  have HSH : Hid (keys.length ≤ 1000000 ∧ vals.length ≤ 1000000 ∧ seen.length ≤ 1000000) := hsh
  have HK1 := Lib.hid hk1
  have HK2 := Lib.hid hk2
  have HV1 := Lib.hid hv1
  have HV2 := Lib.hid hv2
  have HS1 := Lib.hid hs1
  have HS2 := Lib.hid hs2
  obtain ⟨nk, hnk⟩ : ∃ n, n = keys.length := ⟨_, rfl⟩
  obtain ⟨nv, hnv⟩ : ∃ n, n = vals.length := ⟨_, rfl⟩
  obtain ⟨ns, hns⟩ : ∃ n, n = seen.length := ⟨_, rfl⟩
  obtain ⟨ka1, kc1, e1⟩ := hk1.slice
  obtain ⟨ka2, kc2, e2⟩ := hk2.slice
  obtain ⟨va1, vc1, e3⟩ := hv1.slice
  obtain ⟨va2, vc2, e4⟩ := hv2.slice
  obtain ⟨sa1, sc1, e5, -⟩ := hs1.reads
  obtain ⟨sa2, sc2, e6, -⟩ := hs2.reads
  rw [← hnk] at e1 e2
  rw [← hnv] at e3 e4
  rw [← hns] at e5 e6
  subst e1 e2 e3 e4 e5 e6
  have HNS := Lib.hid hns
  clear hk1 hk2 hv1 hv2 hs1 hs2 hnk hnv hns hsh
  have HX3 : Hid (((w.alloc (.cells #[.int .i64 tv, .bool ty, .slice ka1 nk kc1, .slice va1 nv vc1, .slice sa1 ns sc1] 35)).alloc (.cells #[.int .i64 tv, .bool ty, .slice ka2 nk kc2, .slice va2 nv vc2, .slice sa2 ns sc2] 63)).heap[w.heap.size]? = some (.cells #[.int .i64 tv, .bool ty, .slice ka1 nk kc1, .slice va1 nv vc1, .slice sa1 ns sc1] 35 (0, 0))) := at_alloc (heap_alloc_last w _)
  have HX4 : Hid (((w.alloc (.cells #[.int .i64 tv, .bool ty, .slice ka1 nk kc1, .slice va1 nv vc1, .slice sa1 ns sc1] 35)).alloc (.cells #[.int .i64 tv, .bool ty, .slice ka2 nk kc2, .slice va2 nv vc2, .slice sa2 ns sc2] 63)).heap[w.heap.size + 1]? = some (.cells #[.int .i64 tv, .bool ty, .slice ka2 nk kc2, .slice va2 nv vc2, .slice sa2 ns sc2] 63 (0, 0))) := by
    have h := heap_alloc_last (w.alloc (.cells #[.int .i64 tv, .bool ty, .slice ka1 nk kc1, .slice va1 nv vc1, .slice sa1 ns sc1] 35)) (.cells #[.int .i64 tv, .bool ty, .slice ka2 nk kc2, .slice va2 nv vc2, .slice sa2 ns sc2] 63)
    rw [size_alloc] at h
    exact h
  have HB : Hid (Below w.heap.size w ((w.alloc (.cells #[.int .i64 tv, .bool ty, .slice ka1 nk kc1, .slice va1 nv vc1, .slice sa1 ns sc1] 35)).alloc (.cells #[.int .i64 tv, .bool ty, .slice ka2 nk kc2, .slice va2 nv vc2, .slice sa2 ns sc2] 63))) := ((Below.refl _ _).alloc (Nat.le_refl _) _).alloc (by rw [size_alloc]; omega) _
  go_enter Try.func30, Try.ntmps30
  go_upto_region 1 with (fail)
  generalize (w.alloc (.cells #[.int .i64 tv, .bool ty, .slice ka1 nk kc1, .slice va1 nv vc1, .slice sa1 ns sc1] 35)).alloc (.cells #[.int .i64 tv, .bool ty, .slice ka2 nk kc2, .slice va2 nv vc2, .slice sa2 ns sc2] 63) = X at HX3 HX4 HB ⊢
  obtain ⟨b3, hb3⟩ : ∃ b, b = w.heap.size := ⟨_, rfl⟩
  obtain ⟨b4, hb4⟩ : ∃ b, b = b3 + 1 := ⟨_, rfl⟩
  rw [← hb3] at HX3 HX4 ⊢
  rw [← hb4] at HX4 ⊢
  clear hb3 hb4
  have HQ1 := Lib.hid (same_c (w := w) HK1.out.rdi HK2.out.rdi (by have := HSH.out.1; omega))
  have HQ2 := Lib.hid (same_c (w := w) HV1.out.rdi HV2.out.rdi (by have := HSH.out.2.1; omega))
  have dy : (ty != ty) = false := by simp
  have x1 := cell_at (j := 1) HX3.out rfl
  have x2 := cell_at (j := 2) HX3.out rfl
  have x4 := cell_at (j := 4) HX3.out rfl
  have y1 := cell_at (j := 1) HX4.out rfl
  have y2 := cell_at (j := 2) HX4.out rfl
  have y4 := cell_at (j := 4) HX4.out rfl
  go_wp2_with fail
  refine (HQ1.out _ HB.out).mono ?_
  rintro e w2 ⟨rfl, hb2⟩
  have HB2 := Lib.hid (HB.out.trans (hb2.mono HB.out.size))
  have HX32 := Lib.hid (below_at hb2 HX3.out)
  have HX42 := Lib.hid (below_at hb2 HX4.out)
  clear x1 x2 x4 y1 y2 y4 hb2 HX3 HX4 HQ1
  have x4 := cell_at (j := 4) HX32.out rfl
  have y4 := cell_at (j := 4) HX42.out rfl
  have dn : ((ns : Int) != (ns : Int)) = false := by simp
  go_wp2_with fail
  clear x4 y4
  go_loopg [7, 34] ns (fun k v7 v wr => ∃ j : Nat, j + k = ns ∧ v = .int .i64 (j : Int) ∧ Below w2.heap.size w2 wr)
  case atStart => exact ⟨0, by omega, rfl, Below.refl _ _⟩
  case round =>
    obtain ⟨j, hjk, rfl, hb⟩ := hrel
    have HBR := Lib.hid hb
    have HBW : Hid (Below w.heap.size w wr) := HB2.out.trans (hb.mono HB2.out.size)
    have HX4R := Lib.hid (below_at hb HX42.out)
    have HX3R := Lib.hid (below_at hb HX32.out)
    clear hb
    by_cases hlt : j < ns
    · have h1 : decide ((j : Int) < (ns : Int)) = true := by simp; omega
      have hw1 : IntKind.i64.wrap ((j : Int) + 1) = (j : Int) + 1 := by have := HSH.out.2.2; have := HNS.out; rw [IntKind.wrap_i64]; omega
      have hj0 : (0 : Int) ≤ (j : Int) := by omega
      have hj1 : (j : Int) < (ns : Int) := by omega
      obtain ⟨⟨sx, sy, sz⟩, hs⟩ : ∃ s, seen[j]? = some s := ⟨_, List.getElem?_eq_getElem (by rw [← HNS.out]; exact hlt)⟩
      obtain ⟨a1, cc1, ev1, hr1⟩ := (HS1.out.kb (T := 0) (by decide) (KB.of_below 0 HBW.out)).reads
      obtain ⟨a2, cc2, ev2, hr2⟩ := (HS2.out.kb (T := 0) (by decide) (KB.of_below 0 HBW.out)).reads
      simp only [Value.slice.injEq] at ev1 ev2
      obtain ⟨g1, ea1, p0, p1, p2⟩ := hr1 j _ hs
      obtain ⟨g2, ea2, q0, q1, q2⟩ := hr2 j _ hs
      have hma1 : sa1 = some ⟨g1, 0, none⟩ := ev1.1.trans ea1
      have hma2 : sa2 = some ⟨g2, 0, none⟩ := ev2.1.trans ea2
      subst hma1 hma2
      simp only at p0 p1 p2 q0 q1 q2
      clear hs ev1 ev2 hr1 hr2 ea1 ea2
      go_upto_region 6 with (fail)
      have hbx : Below wr.heap.size wr (wr.alloc (.cells #[.int .i64 sx, .int .i64 sy, .bool sz] 49)) := (Below.refl _ _).alloc (Nat.le_refl _) _
      have HX8 : Hid ((wr.alloc (.cells #[.int .i64 sx, .int .i64 sy, .bool sz] 49)).heap[wr.heap.size]? = some (.cells #[.int .i64 sx, .int .i64 sy, .bool sz] 49 (0, 0))) := heap_alloc_last wr _
      have HBX := Lib.hid (HBR.out.trans (hbx.mono HBR.out.size))
      have HX4X := Lib.hid (below_at hbx HX4R.out)
      replace q0 := bcell hbx q0
      replace q1 := bcell hbx q1
      replace q2 := bcell hbx q2
      clear hbx p0 p1 p2
      generalize wr.alloc (.cells #[.int .i64 sx, .int .i64 sy, .bool sz] 49) = Z at HX8 HBX HX4X q0 q1 q2 ⊢
      generalize wr.heap.size = b8 at HX8 ⊢
      have t0 := cell_at (j := 0) HX8.out rfl
      have t1 := cell_at (j := 1) HX8.out rfl
      have t2 := cell_at (j := 2) HX8.out rfl
      have y4 := cell_at (j := 4) HX4X.out rfl
      have ds : (sz != sz) = false := by simp
      refine region_still (by kernel_rfl) (by kernel_rfl) (Veil.out ?_)
      repeat (refine v_step (fun K hK => ?_); go_simp; refine hK _ ?_; clear hK K)
      refine v_nil ⟨?_⟩
      go_wp2_with fail
      go_roundg (gk - 1)
      case measure => omega
      case rel => exact ⟨j + 1, by omega, rfl, HBX.out.drew⟩
    · have h1 : decide ((j : Int) < (ns : Int)) = false := by simp; omega
      have x0 := cell_at (j := 0) HX3R.out rfl
      have x3 := cell_at (j := 3) HX3R.out rfl
      have y0 := cell_at (j := 0) HX4R.out rfl
      have y3 := cell_at (j := 3) HX4R.out rfl
      have dv : (tv == tv) = true := by simp
      go_wp2_with fail
      refine (HQ2.out _ HBW.out).mono ?_
      rintro e w4 ⟨rfl, hb4⟩
      have HB4 := Lib.hid (HBW.out.trans (hb4.mono HBW.out.size))
      clear hb4 x0 x3 y0 y3
      go_wp2_with fail
      go_ret
      exact ⟨rfl, HB4.out⟩
end Go.Proofs.Ytefigjdebakccaa

namespace Go.Proofs.Ytefigjdebakccaa
open Go.RowKit

theorem ToA.below {w w' : World} {t : Told} {a : Value} (b : Below w.heap.size w w') : ToA w t a → ToA w' t a
  | ⟨k, v, s, h0, h1, h2, h3⟩ => ⟨k, v, s, h0, h1.kb (by decide) (KB.of_below 0 b), h2.kb (by decide) (KB.of_below 0 b), h3.kb (by decide) (KB.of_below 0 b)⟩
theorem ToB.below {w w' : World} {t : Told} {a : Value} (b : Below w.heap.size w w') : ToB w t a → ToB w' t a
  | ⟨k, v, s, h0, h1, h2, h3⟩ => ⟨k, v, s, h0, h1.kb (by decide) (KB.of_below 0 b), h2.kb (by decide) (KB.of_below 0 b), h3.kb (by decide) (KB.of_below 0 b)⟩
theorem SP.slice {w : World} {v : Value} {l : List Sn} (h : SP w v l) : ∃ a c, v = .slice a l.length c := by
  obtain ⟨a, c, h1, -⟩ := h.reads
  exact ⟨a, c, h1⟩
theorem SV.slice {w : World} {v : Value} {l : List Sn} (h : SV w v l) : ∃ a c, v = .slice a l.length c := by
  obtain ⟨a, c, h1, -⟩ := h.reads
  exact ⟨a, c, h1⟩
/-- v is a slice of what the reference told -/
def TldP (w : World) (v : Value) (ts : List Told) : Prop :=
  ∃ (a : Option Addr) (c : Nat), v = .slice a ts.length c ∧ ∀ (i : Nat) (t : Told), ts[i]? = some t → ∃ g q ks vs ss, a = some ⟨g, q, none⟩ ∧ w.cell? ⟨g, q + i * 5, none⟩ = some (.int .i64 t.val) ∧ w.cell? ⟨g, q + i * 5 + 1, none⟩ = some (.bool t.yes) ∧
    w.cell? ⟨g, q + i * 5 + 2, none⟩ = some ks ∧ w.cell? ⟨g, q + i * 5 + 3, none⟩ = some vs ∧ w.cell? ⟨g, q + i * 5 + 4, none⟩ = some ss ∧ IV w ks t.keys ∧ IV w vs t.vals ∧ SP w ss t.seen
theorem TldP.below {w w' : World} {v : Value} {ts : List Told} (h : TldP w v ts) (b : Below w.heap.size w w') : TldP w' v ts := by
  obtain ⟨a, c, h1, h2⟩ := h
  refine ⟨a, c, h1, fun i t ht => ?_⟩
  obtain ⟨g, q, ks, vs, ss, h3, h4, h5, h6, h7, h8, h9, h10, h11⟩ := h2 i t ht
  exact ⟨g, q, ks, vs, ss, h3, bcell b h4, bcell b h5, bcell b h6, bcell b h7, bcell b h8, h9.kb (by decide) (KB.of_below 0 b), h10.kb (by decide) (KB.of_below 0 b), h11.kb (by decide) (KB.of_below 0 b)⟩
theorem ToldsP.tldp {w : World} {B : Nat} {v : Value} {ts : List Told} (h : ToldsP w B v ts) : TldP w v ts := by
  obtain ⟨rs, h0, h1, h2⟩ := h
  obtain ⟨a, c, hv⟩ := own_len h1
  refine ⟨a, c, hv, fun i t ht => ?_⟩
  obtain ⟨r, hr⟩ : ∃ r, rs[i]? = some r := ⟨_, List.getElem?_eq_getElem (by rw [h0]; exact (List.getElem?_eq_some_iff.1 ht).1)⟩
  obtain ⟨k1, k2, k3, k4, k5⟩ := tcells_at ht hr
  obtain ⟨g, c1, hs⟩ := own_shape h1 (by have := (List.getElem?_eq_some_iff.1 ht).1; omega)
  rw [hv] at hs
  simp only [Value.slice.injEq] at hs
  obtain ⟨rfl, -, rfl⟩ := hs
  subst hv
  obtain ⟨v1, v2, v3⟩ := h2 i t r ht hr
  exact ⟨g, 0, r.1, r.2.1, r.2.2, rfl, by rw [Nat.zero_add]; exact own_cell5 h1 k1, by rw [Nat.zero_add]; exact own_cell5 h1 k2, by rw [Nat.zero_add]; exact own_cell5 h1 k3, by rw [Nat.zero_add]; exact own_cell5 h1 k4, by rw [Nat.zero_add]; exact own_cell5 h1 k5, v1, v2, v3⟩

set_option maxRecDepth 100000 in
set_option maxHeartbeats 800000 in
theorem cl29_w (t : Told) (hsh : Short t) (a b : Value) (w : World) (ha : ToA w t a) (hb : ToB w t b) :
    Calls Try.prog 29 #[a, b] w fun e w' => e = .returned (.bool true) ∧ Below w.heap.size w w' := by
  have HA := Lib.hid ha
  have HB := Lib.hid hb
  obtain ⟨k1, v1, s1, rfl, hk1, hv1, hs1⟩ := ha
  obtain ⟨k2, v2, s2, rfl, hk2, hv2, hs2⟩ := hb
  have o1 := hk1.one
  have o2 := hv1.one
  have o3 := hs1.one
  have o4 := hk2.one
  have o5 := hv2.one
  have o6 := hs2.one
  obtain ⟨tv, ty, keys, vals, seen⟩ := t
  simp only
  clear hk1 hk2 hv1 hv2 hs1 hs2
  have HX3 : Hid (((w.alloc (.cells #[.int .i64 tv, .bool ty, k1, v1, s1] 35)).alloc (.cells #[.int .i64 tv, .bool ty, k2, v2, s2] 63)).heap[w.heap.size]? = some (.cells #[.int .i64 tv, .bool ty, k1, v1, s1] 35 (0, 0))) := at_alloc (heap_alloc_last w _)
  have HX4 : Hid (((w.alloc (.cells #[.int .i64 tv, .bool ty, k1, v1, s1] 35)).alloc (.cells #[.int .i64 tv, .bool ty, k2, v2, s2] 63)).heap[w.heap.size + 1]? = some (.cells #[.int .i64 tv, .bool ty, k2, v2, s2] 63 (0, 0))) := by
    have h := heap_alloc_last (w.alloc (.cells #[.int .i64 tv, .bool ty, k1, v1, s1] 35)) (.cells #[.int .i64 tv, .bool ty, k2, v2, s2] 63)
    rw [size_alloc] at h
    exact h
  have HBX : Hid (Below w.heap.size w ((w.alloc (.cells #[.int .i64 tv, .bool ty, k1, v1, s1] 35)).alloc (.cells #[.int .i64 tv, .bool ty, k2, v2, s2] 63))) := ((Below.refl _ _).alloc (Nat.le_refl _) _).alloc (by rw [size_alloc]; omega) _
  go_enter Try.func29, Try.ntmps29
  go_upto_region 1 with (fail)
  generalize (w.alloc (.cells #[.int .i64 tv, .bool ty, k1, v1, s1] 35)).alloc (.cells #[.int .i64 tv, .bool ty, k2, v2, s2] 63) = X at HX3 HX4 HBX ⊢
  obtain ⟨b3, hb3⟩ : ∃ b, b = w.heap.size := ⟨_, rfl⟩
  obtain ⟨b4, hb4⟩ : ∃ b, b = b3 + 1 := ⟨_, rfl⟩
  rw [← hb3] at HX3 HX4 ⊢
  rw [← hb4] at HX4 ⊢
  clear hb3 hb4
  have x0 := cell_at (j := 0) HX3.out rfl
  have x1 := cell_at (j := 1) HX3.out rfl
  have x2 := cell_at (j := 2) HX3.out rfl
  have x3 := cell_at (j := 3) HX3.out rfl
  have x4 := cell_at (j := 4) HX3.out rfl
  have y0 := cell_at (j := 0) HX4.out rfl
  have y1 := cell_at (j := 1) HX4.out rfl
  have y2 := cell_at (j := 2) HX4.out rfl
  have y3 := cell_at (j := 3) HX4.out rfl
  have y4 := cell_at (j := 4) HX4.out rfl
  go_wp2_with fail
  refine (sortIs_w ⟨tv, ty, keys, vals, seen⟩ hsh _ _ X (HA.out.below HBX.out) (HB.out.below HBX.out)).mono ?_
  rintro e w2 ⟨rfl, hb2⟩
  have HB2 := Lib.hid (HBX.out.trans (hb2.mono HBX.out.size))
  clear x0 x1 x2 x3 x4 y0 y1 y2 y3 y4 hb2
  go_wp2_with fail
  go_ret
  exact ⟨rfl, HB2.out⟩

set_option maxRecDepth 100000 in
set_option maxHeartbeats 800000 in
theorem cl40_w (t : Told) (hsh : Short t) (a b : Value) (w : World) (ha : ToA w t a) (hb : ToB w t b) :
    Calls Try.prog 40 #[a, b] w fun e w' => e = .returned (.bool true) ∧ Below w.heap.size w w' := by
  have HA := Lib.hid ha
  have HB := Lib.hid hb
  obtain ⟨k1, v1, s1, rfl, hk1, hv1, hs1⟩ := ha
  obtain ⟨k2, v2, s2, rfl, hk2, hv2, hs2⟩ := hb
  have o1 := hk1.one
  have o2 := hv1.one
  have o3 := hs1.one
  have o4 := hk2.one
  have o5 := hv2.one
  have o6 := hs2.one
  obtain ⟨tv, ty, keys, vals, seen⟩ := t
  simp only
  clear hk1 hk2 hv1 hv2 hs1 hs2
  have HX3 : Hid (((w.alloc (.cells #[.int .i64 tv, .bool ty, k1, v1, s1] 35)).alloc (.cells #[.int .i64 tv, .bool ty, k2, v2, s2] 63)).heap[w.heap.size]? = some (.cells #[.int .i64 tv, .bool ty, k1, v1, s1] 35 (0, 0))) := at_alloc (heap_alloc_last w _)
  have HX4 : Hid (((w.alloc (.cells #[.int .i64 tv, .bool ty, k1, v1, s1] 35)).alloc (.cells #[.int .i64 tv, .bool ty, k2, v2, s2] 63)).heap[w.heap.size + 1]? = some (.cells #[.int .i64 tv, .bool ty, k2, v2, s2] 63 (0, 0))) := by
    have h := heap_alloc_last (w.alloc (.cells #[.int .i64 tv, .bool ty, k1, v1, s1] 35)) (.cells #[.int .i64 tv, .bool ty, k2, v2, s2] 63)
    rw [size_alloc] at h
    exact h
  have HBX : Hid (Below w.heap.size w ((w.alloc (.cells #[.int .i64 tv, .bool ty, k1, v1, s1] 35)).alloc (.cells #[.int .i64 tv, .bool ty, k2, v2, s2] 63))) := ((Below.refl _ _).alloc (Nat.le_refl _) _).alloc (by rw [size_alloc]; omega) _
  go_enter Try.func40, Try.ntmps40
  go_upto_region 1 with (fail)
  generalize (w.alloc (.cells #[.int .i64 tv, .bool ty, k1, v1, s1] 35)).alloc (.cells #[.int .i64 tv, .bool ty, k2, v2, s2] 63) = X at HX3 HX4 HBX ⊢
  obtain ⟨b3, hb3⟩ : ∃ b, b = w.heap.size := ⟨_, rfl⟩
  obtain ⟨b4, hb4⟩ : ∃ b, b = b3 + 1 := ⟨_, rfl⟩
  rw [← hb3] at HX3 HX4 ⊢
  rw [← hb4] at HX4 ⊢
  clear hb3 hb4
  have x0 := cell_at (j := 0) HX3.out rfl
  have x1 := cell_at (j := 1) HX3.out rfl
  have x2 := cell_at (j := 2) HX3.out rfl
  have x3 := cell_at (j := 3) HX3.out rfl
  have x4 := cell_at (j := 4) HX3.out rfl
  have y0 := cell_at (j := 0) HX4.out rfl
  have y1 := cell_at (j := 1) HX4.out rfl
  have y2 := cell_at (j := 2) HX4.out rfl
  have y3 := cell_at (j := 3) HX4.out rfl
  have y4 := cell_at (j := 4) HX4.out rfl
  go_wp2_with fail
  refine (sortIs_w ⟨tv, ty, keys, vals, seen⟩ hsh _ _ X (HA.out.below HBX.out) (HB.out.below HBX.out)).mono ?_
  rintro e w2 ⟨rfl, hb2⟩
  have HB2 := Lib.hid (HBX.out.trans (hb2.mono HBX.out.size))
  clear x0 x1 x2 x3 x4 y0 y1 y2 y3 y4 hb2
  go_wp2_with fail
  go_ret
  exact ⟨rfl, HB2.out⟩

set_option maxRecDepth 100000 in
set_option maxHeartbeats 1600000 in
theorem eqf29_w (u v : Value) (ts : List Told) (hl : ts.length ≤ 1000000) (hsh : ∀ t ∈ ts, Short t) (w : World) (hu : TldV w u ts) (hv : TldP w v ts) :
    Calls Try.prog 28 #[u, v, Value.func (.func 29) #[] #[]] w fun e w' => e = .returned (.bool true) ∧ Below w.heap.size w w' := by
  have HSH := Lib.hid hsh
  have HU := Lib.hid hu
  have HV := Lib.hid hv
  obtain ⟨ua, uc, rfl, -⟩ := hu
  obtain ⟨va, vc, rfl, -⟩ := hv
  obtain ⟨n, hn⟩ : ∃ n, n = ts.length := ⟨_, rfl⟩
  rw [← hn] at HU HV hl ⊢
  have HN := Lib.hid hn
  clear hn hsh
  have dn : ((n : Int) != (n : Int)) = false := by simp
  go_enter Try.func28, Try.ntmps28
  go_wp2_with fail
  go_loopg [7, 17] n (fun k v7 v wr => ∃ j : Nat, j + k = n ∧ v = .int .i64 (j : Int) ∧ Below w.heap.size w wr)
  case atStart => exact ⟨0, by omega, rfl, Below.refl _ _⟩
  case round =>
    obtain ⟨j, hjk, rfl, hb⟩ := hrel
    have HB := Lib.hid hb
    clear hb
    by_cases hlt : j < n
    · have h1 : decide ((j : Int) < (n : Int)) = true := by simp; omega
      have hw1 : IntKind.i64.wrap ((j : Int) + 1) = (j : Int) + 1 := by rw [IntKind.wrap_i64]; omega
      have hj0 : (0 : Int) ≤ (j : Int) := by omega
      have hj1 : (j : Int) < (n : Int) := by omega
      obtain ⟨t, ht⟩ : ∃ t, ts[j]? = some t := ⟨_, List.getElem?_eq_getElem (by rw [← HN.out]; exact hlt)⟩
      have HST := Lib.hid (HSH.out t (List.mem_of_getElem? ht))
      obtain ⟨a1, cc1, ev1, hr1⟩ := HU.out.below HB.out
      obtain ⟨a2, cc2, ev2, hr2⟩ := HV.out.below HB.out
      simp only [Value.slice.injEq] at ev1 ev2
      obtain ⟨g1, q1, k1, v1, s1, ea1, p0, p1, p2, p3, p4, hk1, hv1, hs1⟩ := hr1 j t ht
      obtain ⟨g2, q2, k2, v2, s2, ea2, r0, r1, r2, r3, r4, hk2, hv2, hs2⟩ := hr2 j t ht
      have hma1 : ua = some ⟨g1, q1, none⟩ := ev1.1.trans ea1
      have hma2 : va = some ⟨g2, q2, none⟩ := ev2.1.trans ea2
      subst hma1 hma2
      have HTA : Hid (ToA wr t (.agg #[.int .i64 t.val, .bool t.yes, k1, v1, s1])) := ⟨k1, v1, s1, rfl, hk1, hv1, hs1⟩
      have HTB : Hid (ToB wr t (.agg #[.int .i64 t.val, .bool t.yes, k2, v2, s2])) := ⟨k2, v2, s2, rfl, hk2, hv2, hs2⟩
      obtain ⟨tv, htv⟩ : ∃ x, x = t.val := ⟨_, rfl⟩
      obtain ⟨ty, hty⟩ : ∃ x, x = t.yes := ⟨_, rfl⟩
      rw [← htv] at p0 r0 HTA HTB
      rw [← hty] at p1 r1 HTA HTB
      obtain ⟨nk, hnk⟩ : ∃ x, x = t.keys.length := ⟨_, rfl⟩
      obtain ⟨nv, hnv⟩ : ∃ x, x = t.vals.length := ⟨_, rfl⟩
      obtain ⟨ns, hns⟩ : ∃ x, x = t.seen.length := ⟨_, rfl⟩
      obtain ⟨ka1, kc1, e1⟩ := hk1.slice
      obtain ⟨ka2, kc2, e2⟩ := hk2.slice
      obtain ⟨va1, vc1, e3⟩ := hv1.slice
      obtain ⟨va2, vc2, e4⟩ := hv2.slice
      obtain ⟨sa1, sc1, e5⟩ := hs1.slice
      obtain ⟨sa2, sc2, e6⟩ := hs2.slice
      rw [← hnk] at e1 e2
      rw [← hnv] at e3 e4
      rw [← hns] at e5 e6
      clear ht ev1 ev2 hr1 hr2 ea1 ea2 hk1 hk2 hv1 hv2 hs1 hs2 htv hty hnk hnv hns
      subst e1 e2 e3 e4 e5 e6
      go_upto_region 6 with (fail)
      have hbx : Below wr.heap.size wr (wr.alloc (.cells #[.int .i64 tv, .bool ty, .slice ka1 nk kc1, .slice va1 nv vc1, .slice sa1 ns sc1] 35)) := (Below.refl _ _).alloc (Nat.le_refl _) _
      replace r0 := bcell hbx r0
      replace r1 := bcell hbx r1
      replace r2 := bcell hbx r2
      replace r3 := bcell hbx r3
      replace r4 := bcell hbx r4
      clear hbx p0 p1 p2 p3 p4
      go_upto_region 7 with (fail)
      have HX8 : Hid (((wr.alloc (.cells #[.int .i64 tv, .bool ty, .slice ka1 nk kc1, .slice va1 nv vc1, .slice sa1 ns sc1] 35)).alloc (.cells #[.int .i64 tv, .bool ty, .slice ka2 nk kc2, .slice va2 nv vc2, .slice sa2 ns sc2] 63)).heap[wr.heap.size]? = some (.cells #[.int .i64 tv, .bool ty, .slice ka1 nk kc1, .slice va1 nv vc1, .slice sa1 ns sc1] 35 (0, 0))) := at_alloc (heap_alloc_last wr _)
      have HX9 : Hid (((wr.alloc (.cells #[.int .i64 tv, .bool ty, .slice ka1 nk kc1, .slice va1 nv vc1, .slice sa1 ns sc1] 35)).alloc (.cells #[.int .i64 tv, .bool ty, .slice ka2 nk kc2, .slice va2 nv vc2, .slice sa2 ns sc2] 63)).heap[wr.heap.size + 1]? = some (.cells #[.int .i64 tv, .bool ty, .slice ka2 nk kc2, .slice va2 nv vc2, .slice sa2 ns sc2] 63 (0, 0))) := by
        have h := heap_alloc_last (wr.alloc (.cells #[.int .i64 tv, .bool ty, .slice ka1 nk kc1, .slice va1 nv vc1, .slice sa1 ns sc1] 35)) (.cells #[.int .i64 tv, .bool ty, .slice ka2 nk kc2, .slice va2 nv vc2, .slice sa2 ns sc2] 63)
        rw [size_alloc] at h
        exact h
      have hbx : Below wr.heap.size wr ((wr.alloc (.cells #[.int .i64 tv, .bool ty, .slice ka1 nk kc1, .slice va1 nv vc1, .slice sa1 ns sc1] 35)).alloc (.cells #[.int .i64 tv, .bool ty, .slice ka2 nk kc2, .slice va2 nv vc2, .slice sa2 ns sc2] 63)) := ((Below.refl _ _).alloc (Nat.le_refl _) _).alloc (by rw [size_alloc]; omega) _
      have HTA2 := Lib.hid (HTA.out.below hbx)
      have HTB2 := Lib.hid (HTB.out.below hbx)
      have HBX := Lib.hid (HB.out.trans (hbx.mono HB.out.size))
      clear hbx r0 r1 r2 r3 r4 HTA HTB
      generalize (wr.alloc (.cells #[.int .i64 tv, .bool ty, .slice ka1 nk kc1, .slice va1 nv vc1, .slice sa1 ns sc1] 35)).alloc (.cells #[.int .i64 tv, .bool ty, .slice ka2 nk kc2, .slice va2 nv vc2, .slice sa2 ns sc2] 63) = X at HX8 HX9 HTA2 HTB2 HBX ⊢
      obtain ⟨b8, hb8⟩ : ∃ b, b = wr.heap.size := ⟨_, rfl⟩
      obtain ⟨b9, hb9⟩ : ∃ b, b = b8 + 1 := ⟨_, rfl⟩
      rw [← hb8] at HX8 HX9 ⊢
      rw [← hb9] at HX9 ⊢
      clear hb8 hb9
      have x0 := cell_at (j := 0) HX8.out rfl
      have x1 := cell_at (j := 1) HX8.out rfl
      have x2 := cell_at (j := 2) HX8.out rfl
      have x3 := cell_at (j := 3) HX8.out rfl
      have x4 := cell_at (j := 4) HX8.out rfl
      have y0 := cell_at (j := 0) HX9.out rfl
      have y1 := cell_at (j := 1) HX9.out rfl
      have y2 := cell_at (j := 2) HX9.out rfl
      have y3 := cell_at (j := 3) HX9.out rfl
      have y4 := cell_at (j := 4) HX9.out rfl
      go_wp2_with fail
      refine (cl29_w t HST.out _ _ X HTA2.out HTB2.out).mono ?_
      rintro e w2 ⟨rfl, hb2⟩
      have HB2 := Lib.hid (HBX.out.trans (hb2.mono HBX.out.size))
      clear x0 x1 x2 x3 x4 y0 y1 y2 y3 y4 hb2
      go_wp2_with fail
      go_roundg (gk - 1)
      case measure => omega
      case rel => exact ⟨j + 1, by omega, rfl, HB2.out⟩
    · have h1 : decide ((j : Int) < (n : Int)) = false := by simp; omega
      go_wp2_with fail
      go_ret
      exact ⟨rfl, HB.out⟩

end Go.Proofs.Ytefigjdebakccaa
