/- Lists of what moves told, compared. -/
import Derived.Test.YtefigjdebakccaaEqf
namespace Go.Proofs.Ytefigjdebakccaa
open Go.RowKit

set_option maxRecDepth 100000 in
set_option maxHeartbeats 800000 in
theorem cl33_w (x y : Int) (z : Bool) (w : World) : Calls Try.prog 33 #[.agg #[.int .i64 x, .int .i64 y, .bool z], .agg #[.int .i64 x, .int .i64 y, .bool z]] w fun e w' => e = .returned (.bool true) ∧ Below w.heap.size w w' := by
  have HX3 : Hid (((w.alloc (.cells #[.int .i64 x, .int .i64 y, .bool z] 49)).alloc (.cells #[.int .i64 x, .int .i64 y, .bool z] 68)).heap[w.heap.size]? = some (.cells #[.int .i64 x, .int .i64 y, .bool z] 49 (0, 0))) := at_alloc (heap_alloc_last w _)
  have HX4 : Hid (((w.alloc (.cells #[.int .i64 x, .int .i64 y, .bool z] 49)).alloc (.cells #[.int .i64 x, .int .i64 y, .bool z] 68)).heap[w.heap.size + 1]? = some (.cells #[.int .i64 x, .int .i64 y, .bool z] 68 (0, 0))) := by
    have h := heap_alloc_last (w.alloc (.cells #[.int .i64 x, .int .i64 y, .bool z] 49)) (.cells #[.int .i64 x, .int .i64 y, .bool z] 68)
    rw [size_alloc] at h
    exact h
  have HBX : Hid (Below w.heap.size w ((w.alloc (.cells #[.int .i64 x, .int .i64 y, .bool z] 49)).alloc (.cells #[.int .i64 x, .int .i64 y, .bool z] 68))) := ((Below.refl _ _).alloc (Nat.le_refl _) _).alloc (by rw [size_alloc]; omega) _
  go_enter Try.func33, Try.ntmps33
  go_upto_region 1 with (fail)
  generalize (w.alloc (.cells #[.int .i64 x, .int .i64 y, .bool z] 49)).alloc (.cells #[.int .i64 x, .int .i64 y, .bool z] 68) = X at HX3 HX4 HBX ⊢
  obtain ⟨b3, hb3⟩ : ∃ b, b = w.heap.size := ⟨_, rfl⟩
  obtain ⟨b4, hb4⟩ : ∃ b, b = b3 + 1 := ⟨_, rfl⟩
  rw [← hb3] at HX3 HX4 ⊢
  rw [← hb4] at HX4 ⊢
  clear hb3 hb4
  have x0 := cell_at (j := 0) HX3.out rfl
  have x1 := cell_at (j := 1) HX3.out rfl
  have x2 := cell_at (j := 2) HX3.out rfl
  have y0 := cell_at (j := 0) HX4.out rfl
  have y1 := cell_at (j := 1) HX4.out rfl
  have y2 := cell_at (j := 2) HX4.out rfl
  go_wp2_with fail
  go_ret
  exact ⟨rfl, HBX.out⟩

set_option maxRecDepth 100000 in
set_option maxHeartbeats 1600000 in
theorem eqf33_w (u v : Value) (l : List Sn) (hl : l.length ≤ 1000000) (w : World) (hu : SV w u l) (hv : SP w v l) :
    Calls Try.prog 32 #[u, v, Value.func (Fn.func 33) #[] #[]] w fun e w' => e = .returned (.bool true) ∧ Below w.heap.size w w' := by
  have HU := Lib.hid hu
  have HV := Lib.hid hv
  obtain ⟨ua, uc, rfl⟩ := hu.slice
  obtain ⟨va, vc, rfl⟩ := hv.slice
  obtain ⟨n, hn⟩ : ∃ n, n = l.length := ⟨_, rfl⟩
  rw [← hn] at HU HV hl ⊢
  have HN := Lib.hid hn
  clear hn hu hv
  have dn : ((n : Int) != (n : Int)) = false := by simp
  go_enter Try.func32, Try.ntmps32
  go_wp2_with fail
  go_loopg [7, 17] n (fun k v7 v wr => ∃ j : Nat, j + k = n ∧ v = .int .i64 (j : Int) ∧ Below w.heap.size w wr)
  case atStart => exact ⟨0, by omega, rfl, Below.refl _ _⟩
  case round =>
    obtain ⟨j, hjk, rfl, hb⟩ := hrel
    have HB := Lib.hid hb
    clear hb
    by_cases hlt : j < n
    · have h1 : decide ((j : Int) < (n : Int)) = true := by simp; omega
      have hw1 : IntKind.i64.wrap ((j : Int) + 1) = (j : Int) + 1 := by rw [IntKind.wrap_i64]; omega
      have hj0 : (0 : Int) ≤ (j : Int) := by omega
      have hj1 : (j : Int) < (n : Int) := by omega
      obtain ⟨⟨sx, sy, sz⟩, hs⟩ : ∃ s, l[j]? = some s := ⟨_, List.getElem?_eq_getElem (by rw [← HN.out]; exact hlt)⟩
      obtain ⟨a1, cc1, ev1, hr1⟩ := (HU.out.kb (T := 0) (by decide) (KB.of_below 0 HB.out)).reads
      obtain ⟨a2, cc2, ev2, hr2⟩ := (HV.out.kb (T := 0) (by decide) (KB.of_below 0 HB.out)).reads
      simp only [Value.slice.injEq] at ev1 ev2
      obtain ⟨g1, ea1, p0, p1, p2⟩ := hr1 j _ hs
      obtain ⟨g2, ea2, q0, q1, q2⟩ := hr2 j _ hs
      have hma1 : ua = some ⟨g1, 0, none⟩ := ev1.1.trans ea1
      have hma2 : va = some ⟨g2, 0, none⟩ := ev2.1.trans ea2
      subst hma1 hma2
      simp only at p0 p1 p2 q0 q1 q2
      clear hs ev1 ev2 hr1 hr2 ea1 ea2
      go_upto_region 6 with (fail)
      have hbx : Below wr.heap.size wr (wr.alloc (.cells #[.int .i64 sx, .int .i64 sy, .bool sz] 49)) := (Below.refl _ _).alloc (Nat.le_refl _) _
      replace q0 := bcell hbx q0
      replace q1 := bcell hbx q1
      replace q2 := bcell hbx q2
      clear hbx p0 p1 p2
      go_upto_region 7 with (fail)
      have HX8 : Hid (((wr.alloc (.cells #[.int .i64 sx, .int .i64 sy, .bool sz] 49)).alloc (.cells #[.int .i64 sx, .int .i64 sy, .bool sz] 68)).heap[wr.heap.size]? = some (.cells #[.int .i64 sx, .int .i64 sy, .bool sz] 49 (0, 0))) := at_alloc (heap_alloc_last wr _)
      have HX9 : Hid (((wr.alloc (.cells #[.int .i64 sx, .int .i64 sy, .bool sz] 49)).alloc (.cells #[.int .i64 sx, .int .i64 sy, .bool sz] 68)).heap[wr.heap.size + 1]? = some (.cells #[.int .i64 sx, .int .i64 sy, .bool sz] 68 (0, 0))) := by
        have h := heap_alloc_last (wr.alloc (.cells #[.int .i64 sx, .int .i64 sy, .bool sz] 49)) (.cells #[.int .i64 sx, .int .i64 sy, .bool sz] 68)
        rw [size_alloc] at h
        exact h
      have hbx : Below wr.heap.size wr ((wr.alloc (.cells #[.int .i64 sx, .int .i64 sy, .bool sz] 49)).alloc (.cells #[.int .i64 sx, .int .i64 sy, .bool sz] 68)) := ((Below.refl _ _).alloc (Nat.le_refl _) _).alloc (by rw [size_alloc]; omega) _
      have HBX := Lib.hid (HB.out.trans (hbx.mono HB.out.size))
      clear hbx q0 q1 q2
      generalize (wr.alloc (.cells #[.int .i64 sx, .int .i64 sy, .bool sz] 49)).alloc (.cells #[.int .i64 sx, .int .i64 sy, .bool sz] 68) = X at HX8 HX9 HBX ⊢
      obtain ⟨b8, hb8⟩ : ∃ b, b = wr.heap.size := ⟨_, rfl⟩
      obtain ⟨b9, hb9⟩ : ∃ b, b = b8 + 1 := ⟨_, rfl⟩
      rw [← hb8] at HX8 HX9 ⊢
      rw [← hb9] at HX9 ⊢
      clear hb8 hb9
      have x0 := cell_at (j := 0) HX8.out rfl
      have x1 := cell_at (j := 1) HX8.out rfl
      have x2 := cell_at (j := 2) HX8.out rfl
      have y0 := cell_at (j := 0) HX9.out rfl
      have y1 := cell_at (j := 1) HX9.out rfl
      have y2 := cell_at (j := 2) HX9.out rfl
      go_wp2_with fail
      refine (cl33_w sx sy sz X).mono ?_
      rintro e w2 ⟨rfl, hb2⟩
      have HB2 := Lib.hid (HBX.out.trans (hb2.mono HBX.out.size))
      clear x0 x1 x2 y0 y1 y2 hb2
      go_wp2_with fail
      go_roundg (gk - 1)
      case measure => omega
      case rel => exact ⟨j + 1, by omega, rfl, HB2.out⟩
    · have h1 : decide ((j : Int) < (n : Int)) = false := by simp; omega
      go_wp2_with fail
      go_ret
      exact ⟨rfl, HB.out⟩
end Go.Proofs.Ytefigjdebakccaa
