/- The keys of a map with some keys, in order, by the reference.

Are steps ones that can be asked? -/
import Derived.Test.YtefigjdebakccaaSRun
import Derived.Test.YtefigjdebakccaaAsk
namespace Go.Proofs.Ytefigjdebakccaa
open Go.RowKit

theorem pt_nil (w : World) (o : Nat) : PT w (.agg #[.int .u8 (o : Int), .slice none 0 0, .slice none 0 0]) o [] :=
  ⟨none, 0, none, 0, rfl, IV.nil _, IV.nil _, ⟨Nat.le_refl _, fun _ => rfl, nofun⟩, ⟨Nat.le_refl _, fun _ => rfl, nofun⟩⟩
theorem right_filled (xs : List Int) : Right 1 (filled xs) := by
  have h := right_fill xs 0 [] trivial
  rw [List.append_nil] at h
  exact h

set_option maxRecDepth 100000 in
set_option maxHeartbeats 1600000 in
theorem sorted_w (o : Nat) (u : Value) (xs : List Int) (w : World) (hu : RdI w u xs) (hl : xs.length ≤ 400) :
    Calls Try.prog 21 #[.int .u8 (o : Int), u] w fun e w' => ∃ v, e = .returned v ∧ PT w' v o (fill (ltO o) 0 xs []) ∧ Below w.heap.size w w' := by
  have hA : Below w.heap.size w (w.alloc (.cells #[.int .u8 0, .slice none 0 0, .slice none 0 0] 46)) := (Below.refl _ _).alloc (Nat.le_refl _) _
  have HX : Hid ((w.alloc (.cells #[.int .u8 0, .slice none 0 0, .slice none 0 0] 46)).heap[w.heap.size]? = some (.cells #[.int .u8 0, .slice none 0 0, .slice none 0 0] 46 (0, 0))) := heap_alloc_last w _
  have HFL := Lib.hid (filled_w u xs _ (hu.below hA) (by omega))
  have HA := Lib.hid hA
  obtain ⟨ua, uc, rfl, -⟩ := hu
  obtain ⟨n, hn⟩ : ∃ n, n = xs.length := ⟨_, rfl⟩
  rw [← hn] at hl HFL ⊢
  have HN := Lib.hid hn
  clear hn hA
  go_enter Try.func21, Try.ntmps21
  go_upto_region 1 with (fail)
  generalize w.alloc (.cells #[.int .u8 0, .slice none 0 0, .slice none 0 0] 46) = X at HX HFL HA ⊢
  obtain ⟨b4, hb4⟩ : ∃ b, b = w.heap.size := ⟨_, rfl⟩
  rw [← hb4] at HX ⊢
  have HB4 := Lib.hid hb4
  clear hb4
  go_wp2_with fail
  refine HFL.out.mono ?_
  rintro e w1 ⟨v1, rfl, ho1, hb1⟩
  have hst := stps_fill HN.out ho1
  have HRU := Lib.hid (srun_w o [] List.Pairwise.nil (Nat.zero_le _) _ (filled xs) v1 w1 (pt_nil w1 o) hst (right_filled xs) (by rw [filled_len, ← HN.out]; omega))
  have HX1 := Lib.hid (below_at hb1 HX.out)
  have HB1 := Lib.hid (HA.out.trans (hb1.mono HA.out.size))
  obtain ⟨a1, c1, rfl⟩ := own_len ho1
  clear ho1 hb1 hst HFL
  go_wp2_with fail
  refine HRU.out.mono ?_
  rintro e w2 ⟨tv, vv, rfl, -, hvs, hb2⟩
  obtain ⟨h1, h2⟩ := vers_fill (ltO o) xs 0 [[]] [] rfl rfl
  rw [Nat.zero_add] at h2
  obtain ⟨N, hN⟩ : ∃ N, N = (vers (ltO o) [[]] (filled xs)).length := ⟨_, rfl⟩
  have hNn : N = n + 1 := by rw [hN]; unfold filled; rw [h1, HN.out]; omega
  obtain ⟨ps, hp1, hp2, hp3⟩ := hvs
  rw [← hN] at hp1 hp2
  obtain ⟨p, hpn⟩ : ∃ p, ps[n]? = some p := ⟨_, List.getElem?_eq_getElem (by omega)⟩
  obtain ⟨hpt, -, -⟩ := hp3 n p _ hpn (by rw [HN.out]; exact h2)
  obtain ⟨g, c, rfl⟩ := own_shape hp2 (by omega)
  obtain ⟨q0, q1, q2⟩ := pcells_at o hpn
  have e0 := own_cell5 hp2 q0
  have e1 := own_cell5 hp2 q1
  have e2 := own_cell5 hp2 q2
  obtain ⟨p1, p2⟩ := p
  have HPT := Lib.hid hpt
  obtain ⟨ka, kc, va, vc, hag, -⟩ := hpt
  simp only [Value.agg.injEq, Array.mk.injEq, List.cons.injEq, and_true, true_and] at hag
  obtain ⟨rfl, rfl⟩ := hag
  obtain ⟨L, hL⟩ : ∃ L, L = (fill (ltO o) 0 xs []).length := ⟨_, rfl⟩
  rw [← hL] at e1 e2 HPT
  simp only at e1 e2
  have HX2 := Lib.hid (below_at hb2 HX1.out)
  have HB2 := Lib.hid (HB1.out.trans (hb2.mono HB1.out.size))
  have x0 := cell_at (j := 0) HX2.out rfl
  have x1 := cell_at (j := 1) HX2.out rfl
  have x2 := cell_at (j := 2) HX2.out rfl
  have f0 : w2.frozen? ⟨b4, 0, none⟩ = false := frozen_of_row _ _ _ _ _ HX2.out
  have f1 : w2.frozen? ⟨b4, 1, none⟩ = false := frozen_of_row _ _ _ _ _ HX2.out
  have f2 : w2.frozen? ⟨b4, 2, none⟩ = false := frozen_of_row _ _ _ _ _ HX2.out
  have hw : IntKind.i64.wrap ((N : Int) - 1) = (n : Int) := by rw [IntKind.wrap_i64]; omega
  have hw2 : (N : Int) - 1 = (n : Int) := by omega
  have hw3 : IntKind.i64.wrap (n : Int) = (n : Int) := by rw [IntKind.wrap_i64]; omega
  have hlt : (n : Int) < (N : Int) := by omega
  have hn0 : (0 : Int) ≤ (n : Int) := by omega
  clear hp1 hp2 hp3 hpn q0 q1 q2 h1 h2 hN hNn hL hb2 HRU HX HX1
  go_wp2_with fail
  refine bodyPost_ret (v := .agg #[.int .u8 (o : Int), .slice ka L kc, .slice va L vc]) (results_cell_row rfl _ _ b4 46 _ (0, 0) _ rfl (set3_at HX2.out) Try.underlying46 rfl size46) rfl ?_
  have hbt := set3_but w2 b4 (.int .u8 (o : Int)) (.slice ka L kc) (.slice va L vc)
  have hk : KB 46 w2 _ := ((KB.set (i := 0) HX2.out (.int .u8 (o : Int))).trans (KB.set (i := 1) (heap_setCell_same _ _ _ _ _ _ HX2.out) (.slice ka L kc))).trans (KB.set (i := 2) (heap_setCell_same _ _ _ _ _ _ (heap_setCell_same _ _ _ _ _ _ HX2.out)) (.slice va L vc))
  exact ⟨_, rfl, HPT.out.kb (by decide) hk, HB2.out.trans (hbt.below HB2.out.size fun k hk => by rw [hk, HB4.out]; exact Nat.le_refl _)⟩
end Go.Proofs.Ytefigjdebakccaa

namespace Go.Proofs.Ytefigjdebakccaa
open Go.RowKit

/-- a step as it comes -/
structure RSt where
  op : Nat
  on : Int
  key : Int
  val : Int
  moves : List Mv
def inR (x : Int) : Prop := -1000 ≤ x ∧ x ≤ 1000
instance (x : Int) : Decidable (inR x) := by unfold inR; infer_instance
def StOk (n : Nat) (s : RSt) : Prop := s.op ≤ 6 ∧ 0 ≤ s.on ∧ s.on < (n : Int) ∧ inR s.key ∧ inR s.val ∧ s.moves.length ≤ 40 ∧ (∀ m ∈ s.moves, m.1 ≤ 5 ∧ inR m.2) ∧ (s.op ≠ 6 → s.moves = [])
def RightR : Nat → List RSt → Prop
  | _, [] => True
  | n, s :: l => StOk n s ∧ RightR (if s.op ≤ 1 then n + 1 else n) l
def RSt.to (s : RSt) : Stp := ⟨s.op, s.on.toNat, s.key, s.val, s.moves⟩
theorem RightR.right : ∀ (l : List RSt) (n : Nat), RightR n l → Right n (l.map RSt.to)
  | [], _, _ => trivial
  | s :: l, n, h => by
    obtain ⟨⟨h1, h2, h3, -, -, h4, h5, -⟩, h6⟩ := h
    refine ⟨by show s.on.toNat < n; omega, h1, fun m hm => (h5 m hm).1, by show s.moves.length ≤ 100000; omega, RightR.right l _ h6⟩
theorem RightR.all : ∀ (l : List RSt) (n : Nat), RightR n l → ∀ s ∈ l, ∃ m, StOk m s
  | [], _, _, s, hs => by cases hs
  | a :: l, n, h, s, hs => by
    rcases List.mem_cons.1 hs with rfl | hs
    · exact ⟨n, h.1⟩
    · exact RightR.all l _ h.2 s hs
/-- v is a slice of these steps -/
def RStpsV (w : World) (v : Value) (l : List RSt) : Prop :=
  ∃ (a : Option Addr) (cap : Nat), v = .slice a l.length cap ∧ (a = none → cap = 0) ∧ ∀ (i : Nat) (s : RSt), l[i]? = some s → ∃ g q mv, a = some ⟨g, q, none⟩ ∧ w.cell? ⟨g, q + i * 5, none⟩ = some (.int .u8 (s.op : Int)) ∧ w.cell? ⟨g, q + i * 5 + 1, none⟩ = some (.int .i64 s.on) ∧
    w.cell? ⟨g, q + i * 5 + 2, none⟩ = some (.int .i64 s.key) ∧ w.cell? ⟨g, q + i * 5 + 3, none⟩ = some (.int .i64 s.val) ∧ w.cell? ⟨g, q + i * 5 + 4, none⟩ = some mv ∧ MovesV w mv s.moves
theorem RStpsV.below {w w' : World} {v : Value} {l : List RSt} (h : RStpsV w v l) (b : Below w.heap.size w w') : RStpsV w' v l := by
  obtain ⟨a, cap, h1, h0, h2⟩ := h
  refine ⟨a, cap, h1, h0, fun i s hs => ?_⟩
  obtain ⟨g, q, mv, h3, h4, h5, h6, h7, h8, h9⟩ := h2 i s hs
  exact ⟨g, q, mv, h3, bcell b h4, bcell b h5, bcell b h6, bcell b h7, bcell b h8, h9.below b⟩
theorem RStpsV.stps {w : World} {v : Value} {l : List RSt} {n : Nat} (h : RStpsV w v l) (hr : RightR n l) : StpsV w v (l.map RSt.to) := by
  obtain ⟨a, cap, h1, -, h2⟩ := h
  refine ⟨a, cap, by rw [List.length_map]; exact h1, fun i s hs => ?_⟩
  rw [List.getElem?_map] at hs
  cases he : l[i]? with
  | none => rw [he] at hs; cases hs
  | some r =>
    rw [he] at hs
    simp only [Option.map_some, Option.some.injEq] at hs
    subst hs
    obtain ⟨m, hok⟩ := hr.all l n r (List.mem_of_getElem? he)
    obtain ⟨g, q, mv, h3, h4, h5, h6, h7, h8, h9⟩ := h2 i r he
    refine ⟨g, q, mv, h3, h4, ?_, h6, h7, h8, h9⟩
    rw [h5]
    have h0 : r.on = ((r.to.on : Nat) : Int) := by have := hok.2.1; show r.on = ((r.on.toNat : Nat) : Int); omega
    rw [← h0]

set_option maxRecDepth 100000 in
set_option maxHeartbeats 400000 in
theorem in_w (x : Int) (w : World) : Calls Try.prog 46 #[.int .i64 x] w fun e w' => e = .returned (.bool (decide (inR x))) ∧ w = w' := by
  obtain ⟨r, hr⟩ : ∃ r, r = decide (inR x) := ⟨_, rfl⟩
  rw [← hr]
  by_cases h1 : -1000 ≤ x
  · by_cases h2 : x ≤ 1000
    · have d1 : decide (-1000 ≤ x) = true := by simpa using h1
      have d2 : decide (x ≤ 1000) = true := by simpa using h2
      have e : r = true := by rw [hr]; exact decide_eq_true ⟨h1, h2⟩
      subst e
      clear hr
      go_enter Try.func46, Try.ntmps46
      go_wp2_with fail
      go_ret
      exact ⟨rfl, rfl⟩
    · have d1 : decide (-1000 ≤ x) = true := by simpa using h1
      have d2 : decide (x ≤ 1000) = false := by simpa using h2
      have e : r = false := by rw [hr]; exact decide_eq_false fun h => h2 h.2
      subst e
      clear hr
      go_enter Try.func46, Try.ntmps46
      go_wp2_with fail
      go_ret
      exact ⟨rfl, rfl⟩
  · have d1 : decide (-1000 ≤ x) = false := by simpa using h1
    have e : r = false := by rw [hr]; exact decide_eq_false fun h => h1 h.1
    subst e
    clear hr
    go_enter Try.func46, Try.ntmps46
    go_wp2_with fail
    go_ret
    exact ⟨rfl, rfl⟩
theorem in_t {x : Int} (h : inR x) (w : World) : Calls Try.prog 46 #[.int .i64 x] w fun e w' => e = .returned (.bool true) ∧ w = w' := (in_w x w).mono fun e w' h' => ⟨by rw [h'.1, decide_eq_true h], h'.2⟩
theorem in_f {x : Int} (h : ¬ inR x) (w : World) : Calls Try.prog 46 #[.int .i64 x] w fun e w' => e = .returned (.bool false) ∧ w = w' := (in_w x w).mono fun e w' h' => ⟨by rw [h'.1, decide_eq_false h], h'.2⟩

set_option maxRecDepth 100000 in
set_option maxHeartbeats 3200000 in
theorem sright_w (o : Nat) (sv : Value) (l : List RSt) (w : World) (hs : RStpsV w sv l) (hl : l.length ≤ 2147483647) :
    Calls Try.prog 23 #[.int .u8 (o : Int), sv] w fun e w' => ∃ b, e = .returned (.bool b) ∧ (b = true → o ≤ 3 ∧ l.length ≤ 80 ∧ RightR 1 l) ∧ Below w.heap.size w w' := by
  have HS := Lib.hid hs
  obtain ⟨sa, scap, rfl, -⟩ := hs
  obtain ⟨n, hn⟩ : ∃ n, n = l.length := ⟨_, rfl⟩
  rw [← hn] at hl ⊢
  have HN := Lib.hid hn
  clear hn
  go_enter Try.func23, Try.ntmps23
  by_cases c0 : 3 < o
  · have d0 : decide ((3 : Int) < (o : Int)) = true := by simp; omega
    go_wp2_with fail
    go_ret
    exact ⟨false, rfl, nofun, Below.refl _ _⟩
  have d0 : decide ((3 : Int) < (o : Int)) = false := by simp; omega
  by_cases c1 : 80 < n
  · have d1 : decide ((80 : Int) < (n : Int)) = true := by simp; omega
    go_wp2_with fail
    go_ret
    exact ⟨false, rfl, nofun, Below.refl _ _⟩
  have d1 : decide ((80 : Int) < (n : Int)) = false := by simp; omega
  have HON : Hid (o ≤ 3 ∧ n ≤ 80) := ⟨by omega, by omega⟩
  clear c0 c1
  go_wp2_with fail
  go_loopg [5, 20] n (fun k v5 v20 wr => ∃ (j nv : Nat), j + k = n ∧ v20 = .int .i64 (j : Int) ∧ v5 = .int .i64 (nv : Int) ∧ nv ≤ j + 1 ∧ (RightR nv (l.drop j) → RightR 1 l) ∧ Below w.heap.size w wr)
  case atStart => exact ⟨0, 1, by omega, rfl, rfl, by omega, fun h => h, Below.refl _ _⟩
  case round =>
    obtain ⟨j, nv, hjk, rfl, rfl, hnv, hri, hb⟩ := hrel
    have HRI := Lib.hid hri
    have HB := Lib.hid hb
    have HNV := Lib.hid hnv
    clear hri hb hnv
    by_cases hlt : j < n
    · have h1 : decide ((j : Int) < (n : Int)) = true := by simp; omega
      have hw1 : IntKind.i64.wrap ((j : Int) + 1) = (j : Int) + 1 := by have := HON.out; rw [IntKind.wrap_i64]; omega
      have hj0 : (0 : Int) ≤ (j : Int) := by omega
      have hj1 : (j : Int) < (n : Int) := by omega
      obtain ⟨s, hs⟩ : ∃ s, l[j]? = some s := ⟨_, List.getElem?_eq_getElem (by rw [← HN.out]; exact hlt)⟩
      obtain ⟨a, cap, hav, -, hread⟩ := HS.out.below HB.out
      simp only [Value.slice.injEq] at hav
      obtain ⟨g, q, mv, ha, c0, c1, c2, c3, c4, hmv⟩ := hread j s hs
      have hsa : sa = some ⟨g, q, none⟩ := hav.1.trans ha
      subst hsa
      have HMV := Lib.hid hmv
      have HS2 := Lib.hid hs
      obtain ⟨ma, mcap, rfl, -⟩ := hmv
      obtain ⟨op, on, key, val, moves⟩ := s
      obtain ⟨ml, hmll⟩ : ∃ ml, ml = moves.length := ⟨_, rfl⟩
      have HML := Lib.hid hmll
      simp only [← hmll] at c4 HMV
      simp only at c0 c1 c2 c3
      clear hread hav ha hs hmll
      go_upto_region 8 with (fail)
      have HX8 : Hid ((wr.alloc (.cells #[.int .u8 (op : Int), .int .i64 on, .int .i64 key, .int .i64 val, .slice ma ml mcap] 27)).heap[wr.heap.size]? = some (.cells #[.int .u8 (op : Int), .int .i64 on, .int .i64 key, .int .i64 val, .slice ma ml mcap] 27 (0, 0))) := heap_alloc_last wr _
      have hbx : Below wr.heap.size wr (wr.alloc (.cells #[.int .u8 (op : Int), .int .i64 on, .int .i64 key, .int .i64 val, .slice ma ml mcap] 27)) := (Below.refl _ _).alloc (Nat.le_refl _) _
      have HMVX := Lib.hid (HMV.out.below hbx)
      have HBX := Lib.hid (HB.out.trans (hbx.mono HB.out.size))
      clear hbx c0 c1 c2 c3 c4 HMV HB
      generalize wr.alloc (.cells #[.int .u8 (op : Int), .int .i64 on, .int .i64 key, .int .i64 val, .slice ma ml mcap] 27) = X at HX8 HMVX HBX ⊢
      generalize wr.heap.size = b8 at HX8 ⊢
      clear wr
      have y0 := cell_at (j := 0) HX8.out rfl
      have y1 := cell_at (j := 1) HX8.out rfl
      have y2 := cell_at (j := 2) HX8.out rfl
      have y3 := cell_at (j := 3) HX8.out rfl
      have y4 := cell_at (j := 4) HX8.out rfl
      go_cut [68] from 24 to 68 (fun v wc => ∃ b, v = .bool b ∧ (b = false → op ≤ 6 ∧ 0 ≤ on ∧ on < (nv : Int) ∧ inR key ∧ inR val ∧ ml ≤ 40 ∧ (op ≠ 6 → ml = 0)) ∧ wc = X)
      case first =>
        by_cases k1 : 6 < op
        · have e1 : decide ((6 : Int) < (op : Int)) = true := by simp; omega
          go_wp2_with fail
          go_meet
          case rel => exact ⟨true, rfl, nofun, rfl⟩
        have e1 : decide ((6 : Int) < (op : Int)) = false := by simp; omega
        by_cases k2 : on < 0
        · have e2 : decide (on < 0) = true := by simp; omega
          go_wp2_with fail
          go_meet
          case rel => exact ⟨true, rfl, nofun, rfl⟩
        have e2 : decide (on < 0) = false := by simp; omega
        by_cases k3 : (nv : Int) ≤ on
        · have e3 : decide ((nv : Int) ≤ on) = true := by simp; omega
          go_wp2_with fail
          go_meet
          case rel => exact ⟨true, rfl, nofun, rfl⟩
        have e3 : decide ((nv : Int) ≤ on) = false := by simp; omega
        by_cases k4 : inR key
        case neg =>
          have HI := Lib.hid (in_f k4 X)
          clear k4
          go_wp2_with fail
          refine HI.out.mono ?_
          rintro e w' ⟨rfl, rfl⟩
          go_wp2_with fail
          go_meet
          case rel => exact ⟨true, rfl, nofun, rfl⟩
        have HI4 := Lib.hid (in_t k4 X)
        have K4 := Lib.hid k4
        clear k4
        by_cases k5 : inR val
        case neg =>
          have HI := Lib.hid (in_f k5 X)
          clear k5
          go_wp2_with fail
          refine HI4.out.mono ?_
          rintro e w' ⟨rfl, rfl⟩
          go_wp2_with fail
          refine HI.out.mono ?_
          rintro e w' ⟨rfl, rfl⟩
          go_wp2_with fail
          go_meet
          case rel => exact ⟨true, rfl, nofun, rfl⟩
        have HI5 := Lib.hid (in_t k5 X)
        have K5 := Lib.hid k5
        clear k5
        have fin : ∀ b : Bool, True := fun _ => trivial
        by_cases k6 : 40 < ml
        · have e6 : decide ((40 : Int) < (ml : Int)) = true := by simp; omega
          go_wp2_with fail
          refine HI4.out.mono ?_
          rintro e w' ⟨rfl, rfl⟩
          go_wp2_with fail
          refine HI5.out.mono ?_
          rintro e w' ⟨rfl, rfl⟩
          go_wp2_with fail
          go_meet
          case rel => exact ⟨true, rfl, nofun, rfl⟩
        have e6 : decide ((40 : Int) < (ml : Int)) = false := by simp; omega
        by_cases k7 : op = 6
        · subst k7
          go_wp2_with fail
          refine HI4.out.mono ?_
          rintro e w' ⟨rfl, rfl⟩
          go_wp2_with fail
          refine HI5.out.mono ?_
          rintro e w' ⟨rfl, rfl⟩
          go_wp2_with fail
          go_meet
          case rel => exact ⟨false, rfl, fun _ => ⟨by omega, by omega, by omega, K4.out, K5.out, by omega, fun h => absurd rfl h⟩, rfl⟩
        have e7 : ((op : Int) != 6) = true := by simp; omega
        by_cases k8 : 0 < ml
        · have e8 : decide ((0 : Int) < (ml : Int)) = true := by simp; omega
          go_wp2_with fail
          refine HI4.out.mono ?_
          rintro e w' ⟨rfl, rfl⟩
          go_wp2_with fail
          refine HI5.out.mono ?_
          rintro e w' ⟨rfl, rfl⟩
          go_wp2_with fail
          go_meet
          case rel => exact ⟨true, rfl, nofun, rfl⟩
        have e8 : decide ((0 : Int) < (ml : Int)) = false := by simp; omega
        go_wp2_with fail
        refine HI4.out.mono ?_
        rintro e w' ⟨rfl, rfl⟩
        go_wp2_with fail
        refine HI5.out.mono ?_
        rintro e w' ⟨rfl, rfl⟩
        go_wp2_with fail
        go_meet
        case rel => exact ⟨false, rfl, fun _ => ⟨by omega, by omega, by omega, K4.out, K5.out, by omega, fun _ => by omega⟩, rfl⟩
      case rest =>
      obtain ⟨b, rfl, hbf, rfl⟩ := hcut
      cases b with
      | true =>
        clear hbf
        go_wp2_with fail
        go_ret
        exact ⟨false, rfl, nofun, HBX.out⟩
      | false =>
        have HOK := Lib.hid (hbf rfl)
        clear hbf
        obtain ⟨X, rfl⟩ : ∃ X : World, X = wc := ⟨_, rfl⟩
        obtain ⟨kk, rfl⟩ : ∃ kk : Nat, kk = gk := ⟨_, rfl⟩
        go_wp2_with fail
        go_loopg [72] ml (fun k v wr => ∃ i : Nat, i + k = ml ∧ v = .int .i64 (i : Int) ∧ (∀ (i' : Nat) (m : Mv), i' < i → moves[i']? = some m → m.1 ≤ 5 ∧ inR m.2) ∧ Below X.heap.size X wr)
        case atStart => exact ⟨0, by omega, rfl, fun i' m h => by omega, Below.refl _ _⟩
        case round =>
          obtain ⟨i, hik, rfl, hm, hb2⟩ := hrel
          have HM := Lib.hid hm
          have HB2 := Lib.hid hb2
          clear hm hb2 y0 y1 y2 y3 y4
          have HX8R := Lib.hid (below_at HB2.out HX8.out)
          by_cases hil : i < ml
          · have i1 : decide ((i : Int) < (ml : Int)) = true := by simp; omega
            have hwi : IntKind.i64.wrap ((i : Int) + 1) = (i : Int) + 1 := by have := HOK.out.2.2.2.2.2.1; rw [IntKind.wrap_i64]; omega
            have hi0 : (0 : Int) ≤ (i : Int) := by omega
            have hi1 : (i : Int) < (ml : Int) := by omega
            obtain ⟨m, hm⟩ : ∃ m, moves[i]? = some m := ⟨_, List.getElem?_eq_getElem (by rw [← HML.out]; exact hil)⟩
            obtain ⟨a2, cap2, hav, hread⟩ := HMVX.out.below HB2.out
            simp only [Value.slice.injEq] at hav
            obtain ⟨g2, q2, ha2, m0, m1⟩ := hread i m hm
            have hsa : ma = some ⟨g2, q2, none⟩ := hav.1.trans ha2
            subst hsa
            have HMI := Lib.hid hm
            obtain ⟨mo, mk⟩ := m
            clear hread hav ha2 hm
            go_upto_region 13 with (fail)
            have HXA : Hid ((wr.alloc (.cells #[.int .u8 (mo : Int), .int .i64 mk] 44)).heap[wr.heap.size]? = some (.cells #[.int .u8 (mo : Int), .int .i64 mk] 44 (0, 0))) := heap_alloc_last wr _
            have HB3 : Hid (Below X.heap.size X (wr.alloc (.cells #[.int .u8 (mo : Int), .int .i64 mk] 44))) := HB2.out.trans (((Below.refl wr.heap.size wr).alloc (Nat.le_refl _) _).mono HB2.out.size)
            clear m0 m1 HX8R
            generalize wr.alloc (.cells #[.int .u8 (mo : Int), .int .i64 mk] 44) = Z at HXA HB3 ⊢
            generalize wr.heap.size = b10 at HXA ⊢
            have t0 := cell_at (j := 0) HXA.out rfl
            have t1 := cell_at (j := 1) HXA.out rfl
            by_cases k1 : 5 < mo
            · have e1 : decide ((5 : Int) < (mo : Int)) = true := by simp; omega
              go_wp2_with fail
              go_ret
              exact ⟨false, rfl, nofun, HBX.out.trans (HB3.out.mono HBX.out.size)⟩
            have e1 : decide ((5 : Int) < (mo : Int)) = false := by simp; omega
            by_cases k2 : inR mk
            case neg =>
              have HI := Lib.hid (in_f k2 Z)
              clear k2
              go_wp2_with fail
              refine HI.out.mono ?_
              rintro e w' ⟨rfl, rfl⟩
              go_wp2_with fail
              go_ret
              exact ⟨false, rfl, nofun, HBX.out.trans (HB3.out.mono HBX.out.size)⟩
            have HI := Lib.hid (in_t k2 Z)
            have K2 := Lib.hid k2
            have K1 : Hid (mo ≤ 5) := by show mo ≤ 5; omega
            clear k2 k1
            go_wp2_with fail
            refine HI.out.mono ?_
            rintro e w' ⟨rfl, rfl⟩
            go_wp2_with fail
            go_roundg (gk - 1)
            case measure => omega
            case rel =>
              refine ⟨i + 1, by omega, rfl, fun i' m h1 h2 => ?_, HB3.out⟩
              by_cases hii : i' < i
              · exact HM.out i' m hii h2
              · obtain rfl : i' = i := by omega
                rw [HMI.out] at h2
                cases h2
                exact ⟨K1.out, K2.out⟩
          · have i1 : decide ((i : Int) < (ml : Int)) = false := by simp; omega
            have him : i = ml := by omega
            have HALL : Hid (∀ m ∈ moves, m.1 ≤ 5 ∧ inR m.2) := fun m hm => by
              obtain ⟨i', hi'⟩ := List.getElem?_of_mem hm
              exact HM.out i' m (by rw [him, HML.out]; exact (List.getElem?_eq_some_iff.1 hi').1) hi'
            have y0 := cell_at (j := 0) HX8R.out rfl
            have HBW : Hid (Below w.heap.size w wr) := HBX.out.trans (HB2.out.mono HBX.out.size)
            have HSTEP : Hid (∀ nv', nv' = (if op ≤ 1 then nv + 1 else nv) → RightR nv' (l.drop (j + 1)) → RightR 1 l) := by
              intro nv' hnv' hr
              refine HRI.out ?_
              obtain ⟨hl2, he⟩ := List.getElem?_eq_some_iff.1 HS2.out
              rw [List.drop_eq_getElem_cons hl2, he]
              obtain ⟨g1, g2, g3, g4, g5, g6, g7⟩ := HOK.out
              refine ⟨⟨g1, g2, g3, g4, g5, by show moves.length ≤ 40; rw [← HML.out]; exact g6, HALL.out, fun h => ?_⟩, ?_⟩
              · have := g7 h
                rw [HML.out] at this
                exact List.eq_nil_of_length_eq_zero this
              · rw [hnv'] at hr
                exact hr
            clear him
            by_cases k1 : op ≤ 1
            · have hwn : IntKind.i64.wrap ((nv : Int) + 1) = (nv : Int) + 1 := by have := HNV.out; have := HON.out; rw [IntKind.wrap_i64]; omega
              have HST := HSTEP.out (nv + 1) (by rw [if_pos k1])
              have HST2 := Lib.hid HST
              clear HST
              have k2 : op = 0 ∨ op = 1 := by omega
              clear k1
              rcases k2 with rfl | rfl
              all_goals
                go_wp2_with fail
                go_roundg (kk - 1)
                case measure => omega
                case rel => exact ⟨j + 1, nv + 1, by omega, rfl, rfl, by have := HNV.out; omega, HST2.out, HBW.out⟩
            · have e2 : ((op : Int) == 0) = false := by simp; omega
              have e3 : ((op : Int) == 1) = false := by simp; omega
              have HST2 := Lib.hid (HSTEP.out nv (by rw [if_neg k1]))
              clear k1
              go_wp2_with fail
              go_roundg (kk - 1)
              case measure => omega
              case rel => exact ⟨j + 1, nv, by omega, rfl, rfl, by have := HNV.out; omega, HST2.out, HBW.out⟩
    · have h1 : decide ((j : Int) < (n : Int)) = false := by simp; omega
      have hjn : j = n := by omega
      have HFR : Hid (RightR 1 l) := HRI.out (by rw [List.drop_eq_nil_of_le (by rw [hjn, HN.out]; exact Nat.le_refl _)]; trivial)
      clear hjn
      go_wp2_with fail
      go_ret
      exact ⟨true, rfl, fun _ => ⟨HON.out.1, HON.out.2, HFR.out⟩, HB.out⟩
end Go.Proofs.Ytefigjdebakccaa
