/- Steps converted from the one form to the other. -/
import Derived.Test.YtefigjdebakccaaCut2
import Derived.Test.YtefigjdebakccaaPln
namespace Go.Proofs.Ytefigjdebakccaa
open Go.RowKit

abbrev Mv := Nat × Int
def mcells (l : List Mv) : List Value := l.flatMap fun m => [.int .u8 (m.1 : Int), .int .i64 m.2]
theorem mcells_append (a b : List Mv) : mcells (a ++ b) = mcells a ++ mcells b := by unfold mcells; rw [List.flatMap_append]
theorem mcells_at : ∀ {l : List Mv} {i : Nat} {x : Mv}, l[i]? = some x → (mcells l)[i * 2]? = some (.int .u8 (x.1 : Int)) ∧ (mcells l)[i * 2 + 1]? = some (.int .i64 x.2)
  | [], _, _, h => by simp at h
  | a :: l, 0, x, h => by
    have : a = x := by simpa using h
    subst this
    exact ⟨rfl, rfl⟩
  | a :: l, i + 1, x, h => by
    have ih := mcells_at (l := l) (i := i) (x := x) (by simpa using h)
    rw [show (i + 1) * 2 = i * 2 + 1 + 1 by omega]
    simpa [mcells] using ih
/-- v is a slice of moves in a block of their type -/
def MvT (w : World) (v : Value) (l : List Mv) : Prop :=
  (v = .slice none 0 0 ∧ l = []) ∨ ∃ (g c : Nat) (cur : Array Value), v = .slice (some ⟨g, 0, none⟩) l.length c ∧ w.heap[g]? = some (.cells cur 110 (0, 0)) ∧ ∀ (i : Nat) (x : Mv), l[i]? = some x → cur[i * 2]? = some (Value.int .u8 (x.1 : Int)) ∧ cur[i * 2 + 1]? = some (Value.int .i64 x.2)
theorem MvT.kb {T : TypeId} {w w' : World} {v : Value} {l : List Mv} (hT : 110 ≠ T) (h : KB T w w') : MvT w v l → MvT w' v l
  | .inl h1 => .inl h1
  | .inr ⟨g, c, cur, h1, h2, h3⟩ => .inr ⟨g, c, cur, h1, h _ _ _ h2 hT, h3⟩
theorem MvT.moves {w : World} {v : Value} {l : List Mv} : MvT w v l → MovesV w v l
  | .inl ⟨h1, h2⟩ => by subst h1 h2; exact movesV_nil w
  | .inr ⟨g, c, cur, h1, h2, h3⟩ => ⟨_, c, h1, fun i m hm => ⟨g, 0, rfl, by rw [Nat.zero_add]; exact cell_at h2 (h3 i m hm).1, by rw [Nat.zero_add]; exact cell_at h2 (h3 i m hm).2⟩⟩
theorem MvT.of_own {w : World} {B n : Nat} {v : Value} {l : List Mv} (hn : n = l.length) (h : w.ownsRow B 110 2 v n (mcells l)) : MvT w v l := by
  subst hn
  rcases h.2 with ⟨h1, h2⟩ | ⟨g, cap, cur, h1, h2, h3, h4, h5, h6, h7⟩
  · exact .inl ⟨h1, List.eq_nil_of_length_eq_zero h2⟩
  · refine .inr ⟨g, cap, cur, h1, h3, fun i x hx => ?_⟩
    have hi : i < l.length := (List.getElem?_eq_some_iff.1 hx).1
    obtain ⟨h8, h9⟩ := mcells_at hx
    rw [← h7, List.getElem?_take, if_pos (by omega), Array.getElem?_toList] at h8 h9
    exact ⟨h8, h9⟩
theorem MvT.one {w : World} {v : Value} {l : List Mv} (h : MvT w v l) : v.oneCell' = true := by
  rcases h with ⟨h, -⟩ | ⟨g, c, cur, h, -⟩
  · rw [h]; rfl
  · rw [h]; rfl
theorem MvT.sl {w : World} {v : Value} {l : List Mv} (h : MvT w v l) : IsSl v := by
  rcases h with ⟨h, -⟩ | ⟨g, c, cur, h, -⟩
  · exact .inl h
  · exact .inr ⟨g, _, c, h⟩
def stcells : List Stp → List Value → List Value
  | s :: ss, r :: rs => .int .u8 (s.op : Int) :: .int .i64 (s.on : Int) :: .int .i64 s.key :: .int .i64 s.val :: r :: stcells ss rs
  | _, _ => []
theorem stcells_snoc : ∀ {ts : List Stp} {rs : List Value} (s : Stp) (r : Value), ts.length = rs.length → stcells (ts ++ [s]) (rs ++ [r]) = stcells ts rs ++ [.int .u8 (s.op : Int), .int .i64 (s.on : Int), .int .i64 s.key, .int .i64 s.val, r]
  | [], [], _, _, _ => rfl
  | [], _ :: _, _, _, h => by simp at h
  | _ :: _, [], _, _, h => by simp at h
  | a :: ts, b :: rs, t, r, h => by
    simp only [List.cons_append, stcells]
    rw [stcells_snoc t r (by simpa using h)]
theorem stcells_at : ∀ {ts : List Stp} {rs : List Value} {i : Nat} {t : Stp} {r : Value}, ts[i]? = some t → rs[i]? = some r → (stcells ts rs)[i * 5]? = some (.int .u8 (t.op : Int)) ∧ (stcells ts rs)[i * 5 + 1]? = some (.int .i64 (t.on : Int)) ∧ (stcells ts rs)[i * 5 + 2]? = some (.int .i64 t.key) ∧ (stcells ts rs)[i * 5 + 3]? = some (.int .i64 t.val) ∧ (stcells ts rs)[i * 5 + 4]? = some r
  | [], _, _, _, _, h, _ => by simp at h
  | _ :: _, [], _, _, _, _, h => by simp at h
  | a :: ts, b :: rs, 0, t, r, h1, h2 => by
    simp at h1 h2
    subst h1 h2
    exact ⟨rfl, rfl, rfl, rfl, rfl⟩
  | a :: ts, b :: rs, i + 1, t, r, h1, h2 => by
    have ih := stcells_at (ts := ts) (rs := rs) (i := i) (t := t) (r := r) (by simpa using h1) (by simpa using h2)
    rw [show (i + 1) * 5 = i * 5 + 1 + 1 + 1 + 1 + 1 by omega]
    simpa [stcells] using ih
/-- a row of steps, each with its moves -/
def StpsT (T : TypeId) (w : World) (B : Nat) (v : Value) (l : List Stp) : Prop :=
  ∃ rs : List Value, rs.length = l.length ∧ w.ownsRow B T 5 v l.length (stcells l rs) ∧ ∀ (i : Nat) (s : Stp) (r : Value), l[i]? = some s → rs[i]? = some r → MvT w r s.moves
theorem StpsT.below {T : TypeId} {w w' : World} {B : Nat} {v : Value} {l : List Stp} (h : Below w.heap.size w w') : StpsT T w B v l → StpsT T w' B v l
  | ⟨rs, h1, h2, h3⟩ => ⟨rs, h1, own_below h2 h, fun i s r hs hr => (h3 i s r hs hr).kb (by decide) (KB.of_below 0 h)⟩
theorem StpsT.stps {T : TypeId} {w : World} {B : Nat} {v : Value} {l : List Stp} (h : StpsT T w B v l) : StpsV w v l := by
  obtain ⟨rs, h0, h1, h2⟩ := h
  obtain ⟨a, c, hv⟩ := own_len h1
  refine ⟨a, c, hv, fun i s hs => ?_⟩
  obtain ⟨r, hr⟩ : ∃ r, rs[i]? = some r := ⟨_, List.getElem?_eq_getElem (by rw [h0]; exact (List.getElem?_eq_some_iff.1 hs).1)⟩
  obtain ⟨k1, k2, k3, k4, k5⟩ := stcells_at hs hr
  obtain ⟨g, c1, e1, q1⟩ := own_read h1 k1
  obtain ⟨g2, c2, e2, q2⟩ := own_read h1 k2
  obtain ⟨g3, c3, e3, q3⟩ := own_read h1 k3
  obtain ⟨g4, c4, e4, q4⟩ := own_read h1 k4
  obtain ⟨g5, c5, e5, q5⟩ := own_read h1 k5
  rw [hv] at e1 e2 e3 e4 e5
  simp only [Value.slice.injEq] at e1 e2 e3 e4 e5
  have k2 : g2 = g := by have := e2.1.symm.trans e1.1; simpa using this
  have k3 : g3 = g := by have := e3.1.symm.trans e1.1; simpa using this
  have k4 : g4 = g := by have := e4.1.symm.trans e1.1; simpa using this
  have k5 : g5 = g := by have := e5.1.symm.trans e1.1; simpa using this
  subst k2 k3 k4 k5
  exact ⟨g5, 0, _, e1.1, by rw [Nat.zero_add]; exact q1, by rw [Nat.zero_add]; exact q2, by rw [Nat.zero_add]; exact q3, by rw [Nat.zero_add]; exact q4, by rw [Nat.zero_add]; exact q5, (h2 i s r hs hr).moves⟩
theorem StpsT.nil (T : TypeId) (w : World) (B : Nat) : StpsT T w B (.slice none 0 0) [] := ⟨[], rfl, World.ownsRow_nil _ _ _ _, fun i s r h => by simp at h⟩
/-- a step more: the row has grown -/
theorem stps_snoc {T : TypeId} {w : World} {B : Nat} {v : Value} {l : List Stp} {rs : List Value} {s : Stp} {r : Value} (h1 : rs.length = l.length) (ho : w.ownsRow B T 5 v (l.length + 1) (stcells l rs ++ [.int .u8 (s.op : Int), .int .i64 (s.on : Int), .int .i64 s.key, .int .i64 s.val, r]))
    (hold : ∀ (i : Nat) (s : Stp) (r : Value), l[i]? = some s → rs[i]? = some r → MvT w r s.moves) (hnew : MvT w r s.moves) : StpsT T w B v (l ++ [s]) := by
  refine ⟨rs ++ [r], by rw [List.length_append, List.length_append, h1]; rfl, ?_, fun i t' r' ht hr => ?_⟩
  · rw [stcells_snoc s r h1.symm, List.length_append]
    exact ho
  · rcases Nat.lt_or_ge i l.length with h9 | h9
    · rw [List.getElem?_append_left h9] at ht
      rw [List.getElem?_append_left (by omega)] at hr
      exact hold i t' r' ht hr
    · rw [List.getElem?_append_right h9] at ht
      rw [List.getElem?_append_right (by omega)] at hr
      have e : i - l.length = 0 := by
        rcases Nat.eq_zero_or_pos (i - l.length) with h | h
        · exact h
        · rw [List.getElem?_eq_none (by simp; omega)] at ht; cases ht
      rw [h1] at hr
      rw [e] at ht hr
      simp only [List.getElem?_cons_zero, Option.some.injEq] at ht hr
      subst ht hr
      exact hnew
theorem info110 : (Try.prog.info? 110).map (fun i => (i.zero, i.size, i.bytes)) = some (some (.agg #[.int .u8 0, .int .i64 0]), 2, 16) := by kernel_rfl
theorem info89 : (Try.prog.info? 89).map (fun i => (i.zero, i.size, i.bytes)) = some (some (.agg #[.int .u8 0, .int .i64 0, .int .i64 0, .int .i64 0, .slice none 0 0]), 5, 56) := by kernel_rfl
theorem two_new (w : World) (a b : Value) (t : TypeId) : ∀ j u, [a, b][j]? = some u → (w.alloc (.cells #[a, b] t)).cell? ((⟨w.heap.size, 0, none⟩ : Addr).add j) = some u := fun j u hu => by
  rw [addr_add, Nat.zero_add]
  exact cell_at (heap_alloc_last w _) (by simpa using hu)
theorem two_new1 (w : World) (a b : Value) (t : TypeId) (o : Obj) : ∀ j u, [a, b][j]? = some u → ((w.alloc o).alloc (.cells #[a, b] t)).cell? ((⟨w.heap.size + 1, 0, none⟩ : Addr).add j) = some u := fun j u hu => by
  have h := two_new (w.alloc o) a b t j u hu
  rw [size_alloc] at h
  exact h
theorem two_one {a b : Value} (ha : a.oneCell' = true) (hb : b.oneCell' = true) : ∀ u ∈ [a, b], u.oneCell' = true := fun u hu => by
  simp only [List.mem_cons, List.not_mem_nil, or_false] at hu
  rcases hu with rfl | rfl <;> assumption
theorem But.trans' {S S' : Nat → Prop} {a b c : World} (h : But S a b) (k : But S' b c) (hS : ∀ x, x < a.heap.size → ¬ S' x) : But S a c :=
  ⟨k.os.trans h.os, k.tape.trans h.tape, k.output.trans h.output, Nat.le_trans h.size k.size, fun x hx hs => (k.block x (Nat.lt_of_lt_of_le hx h.size) (hS x hx)).trans (h.block x hx hs)⟩
/-- in a step: its moves are being written -/
def Mvg (W : World) (b6 : Nat) (op on key val mv : Value) (ms : List Mv) (i : Nat) (wr : World) : Prop :=
  But (· = b6) W wr ∧ wr.heap[b6]? = some (.cells #[op, on, key, val, mv] 89 (0, 0)) ∧ wr.ownsRow W.heap.size 110 2 mv i (mcells (ms.take i)) ∧ b6 < W.heap.size
theorem Mvg.free {W : World} {b6 : Nat} {op on key val mv : Value} {ms : List Mv} {i : Nat} {wr : World} (h : Mvg W b6 op on key val mv ms i wr) (j : Nat) : wr.frozen? ⟨b6, j, none⟩ = false := frozen_of_row _ _ _ _ _ h.2.1

set_option maxRecDepth 100000 in
set_option maxHeartbeats 3200000 in
theorem tosort_w (u : Value) (l : List Stp) (w : World) (hu : StpsV w u l) (hl : l.length < 100000) (hm : ∀ s ∈ l, s.moves.length ≤ 100000) :
    Calls Try.prog 26 #[u] w fun e w' => ∃ v, e = .returned v ∧ StpsT 89 w' w.heap.size v l ∧ Below w.heap.size w w' := by
  obtain ⟨i110, hi, hz0, hz1, hz2⟩ := info_parts info110
  have HI := Lib.hid (And.intro hi (And.intro hz0 (And.intro hz1 hz2)))
  clear hi hz0 hz1 hz2
  obtain ⟨i89, hi, hz0, hz1, hz2⟩ := info_parts info89
  have HJ := Lib.hid (And.intro hi (And.intro hz0 (And.intro hz1 hz2)))
  clear hi hz0 hz1 hz2
  have HM := Lib.hid hm
  have HU := Lib.hid hu
  obtain ⟨ua, uc, rfl, hu2⟩ := hu
  obtain ⟨n, hn⟩ : ∃ n, n = l.length := ⟨_, rfl⟩
  rw [← hn] at hl ⊢
  have HN := Lib.hid hn
  clear hu2 hn hm
  go_enter Try.func26, Try.ntmps26
  go_wp2_with fail
  go_loopg [3, 11] n (fun k sv v wr => ∃ j : Nat, j + k = n ∧ v = .int .i64 (j : Int) ∧ StpsT 89 wr w.heap.size sv (l.take j) ∧ Below w.heap.size w wr)
  case atStart => exact ⟨0, by omega, rfl, StpsT.nil _ _ _, Below.refl _ _⟩
  case round =>
    obtain ⟨j, hjk, rfl, ho, hb⟩ := hrel
    have HO := Lib.hid ho
    have HB := Lib.hid hb
    clear ho hb
    by_cases hlt : j < n
    · have h1 : decide ((j : Int) < (n : Int)) = true := by simp; omega
      have hw1 : IntKind.i64.wrap ((j : Int) + 1) = (j : Int) + 1 := by rw [IntKind.wrap_i64]; omega
      have hj0 : (0 : Int) ≤ (j : Int) := by omega
      have hj1 : (j : Int) < (n : Int) := by omega
      obtain ⟨s, hs⟩ : ∃ s, l[j]? = some s := ⟨_, List.getElem?_eq_getElem (by rw [← HN.out]; exact hlt)⟩
      obtain ⟨ua', uc', hv, hread⟩ := HU.out.below HB.out
      obtain ⟨g, q, mv, ha, c0, c1, c2, c3, c4, hmv⟩ := hread j s hs
      simp only [Value.slice.injEq] at hv
      obtain ⟨hv1, -, -⟩ := hv
      have hma : ua = some ⟨g, q, none⟩ := hv1.trans ha
      subst hma
      have HX := Lib.hid hs
      have HML := Lib.hid (HM.out s (List.mem_of_getElem? hs))
      obtain ⟨op, on, key, val, ms⟩ := s
      have HMV := Lib.hid hmv
      obtain ⟨ma, mc, rfl, -⟩ := hmv
      obtain ⟨m, hmm⟩ : ∃ m, m = ms.length := ⟨_, rfl⟩
      have HMM := Lib.hid hmm
      have HML2 : Hid (m ≤ 100000) := by show m ≤ 100000; rw [hmm]; exact HML.out
      simp only [← hmm] at c4
      clear hread hv1 ha hs hmm HML
      go_upto_region 6 with (fail)
      have hY : Below wr.heap.size wr ((wr.alloc (.cells #[.int .u8 (op : Int), .int .i64 (on : Int), .int .i64 key, .int .i64 val, .slice ma m mc] 27)).alloc (.cells #[.int .u8 (op : Int), .int .i64 (on : Int), .int .i64 key, .int .i64 val, .slice none 0 0] 89)) := ((Below.refl _ _).alloc (Nat.le_refl _) _).alloc (by rw [size_alloc]; omega) _
      have HX5 : Hid (((wr.alloc (.cells #[.int .u8 (op : Int), .int .i64 (on : Int), .int .i64 key, .int .i64 val, .slice ma m mc] 27)).alloc (.cells #[.int .u8 (op : Int), .int .i64 (on : Int), .int .i64 key, .int .i64 val, .slice none 0 0] 89)).heap[wr.heap.size]? = some (.cells #[.int .u8 (op : Int), .int .i64 (on : Int), .int .i64 key, .int .i64 val, .slice ma m mc] 27 (0, 0))) := at_alloc (heap_alloc_last wr _)
      have HX6 : Hid (((wr.alloc (.cells #[.int .u8 (op : Int), .int .i64 (on : Int), .int .i64 key, .int .i64 val, .slice ma m mc] 27)).alloc (.cells #[.int .u8 (op : Int), .int .i64 (on : Int), .int .i64 key, .int .i64 val, .slice none 0 0] 89)).heap[wr.heap.size + 1]? = some (.cells #[.int .u8 (op : Int), .int .i64 (on : Int), .int .i64 key, .int .i64 val, .slice none 0 0] 89 (0, 0))) := by
        have h := heap_alloc_last (wr.alloc (.cells #[.int .u8 (op : Int), .int .i64 (on : Int), .int .i64 key, .int .i64 val, .slice ma m mc] 27)) (.cells #[.int .u8 (op : Int), .int .i64 (on : Int), .int .i64 key, .int .i64 val, .slice none 0 0] 89)
        rw [size_alloc] at h
        exact h
      have HY := Lib.hid hY
      clear hY c0 c1 c2 c3 c4
      generalize (wr.alloc (.cells #[.int .u8 (op : Int), .int .i64 (on : Int), .int .i64 key, .int .i64 val, .slice ma m mc] 27)).alloc (.cells #[.int .u8 (op : Int), .int .i64 (on : Int), .int .i64 key, .int .i64 val, .slice none 0 0] 89) = Y at HX5 HX6 HY ⊢
      obtain ⟨b5, hb5⟩ : ∃ b, b = wr.heap.size := ⟨_, rfl⟩
      obtain ⟨b6, hb6⟩ : ∃ b, b = b5 + 1 := ⟨_, rfl⟩
      rw [← hb5] at HX5 HX6 ⊢
      rw [← hb6] at HX6 ⊢
      have HB6 : Hid (wr.heap.size ≤ b6 ∧ b6 < Y.heap.size) := ⟨by omega, lt_of_block HX6.out⟩
      clear hb5 hb6
      have y4 := cell_at (j := 4) HX5.out rfl
      obtain ⟨Z, rfl⟩ : ∃ Z : World, Z = wr := ⟨_, rfl⟩
      obtain ⟨kk, rfl⟩ : ∃ kk : Nat, kk = gk := ⟨_, rfl⟩
      go_wp2_with fail
      clear y4
      go_loopg [27] m (fun k v W => ∃ (i : Nat) (mv : Value), i + k = m ∧ v = .int .i64 (i : Int) ∧ Mvg Y b6 (.int .u8 (op : Int)) (.int .i64 (on : Int)) (.int .i64 key) (.int .i64 val) mv ms i W)
      case atStart => exact ⟨0, .slice none 0 0, by omega, rfl, But.refl _ _, HX6.out, World.ownsRow_nil _ _ _ _, HB6.out.2⟩
      case round =>
        obtain ⟨i, mv, hik, rfl, hg⟩ := hrel
        have HZW := Lib.hid (But.below' HY.out HB6.out.1 HY.out.size hg.1)
        have hblk := hg.2.1
        have how := hg.2.2.1
        have HG := Lib.hid hg
        clear hg
        obtain ⟨va, vc, rfl⟩ := own_len how
        have HOW := Lib.hid how
        have HBK := Lib.hid hblk
        clear how hblk
        by_cases hil : i < m
        · have d1 : decide ((i : Int) < (m : Int)) = true := by simp; omega
          have d2 : IntKind.i64.wrap ((i : Int) + 1) = (i : Int) + 1 := by have := HML2.out; rw [IntKind.wrap_i64]; omega
          have d3 : (0 : Int) ≤ (i : Int) := by omega
          have d4 : (i : Int) < (m : Int) := by omega
          obtain ⟨x, hx⟩ : ∃ x, ms[i]? = some x := ⟨_, List.getElem?_eq_getElem (by rw [← HMM.out]; exact hil)⟩
          obtain ⟨ma', mc', hv, hread⟩ := HMV.out.below HZW.out
          obtain ⟨g1, q1, ha, e0, e1⟩ := hread i x hx
          simp only [Value.slice.injEq] at hv
          have hma : ma = some ⟨g1, q1, none⟩ := hv.1.trans ha
          subst hma
          obtain ⟨mop, mkey⟩ := x
          have HXI := Lib.hid hx
          have z4 := cell_at (j := 4) (at_alloc (o := .cells #[.int .u8 (mop : Int), .int .i64 mkey] 44) HBK.out) rfl
          clear hread hv ha hx
          go_upto_region 9 with (fail)
          clear e0 e1
          have HB : Hid (Below wr.heap.size wr (wr.alloc (.cells #[.int .u8 (mop : Int), .int .i64 mkey] 44))) := (Below.refl _ _).alloc (Nat.le_refl _) _
          have hgs : Y.heap.size ≤ wr.heap.size := HG.out.1.size
          have HGS := Lib.hid hgs
          clear hgs
          go_wp2_with (at_builtin; refine wpList_append_own _ rfl (.tmp 32) (.tmp 34) 87 rfl Y.heap.size 110 i110 (.agg #[.int .u8 0, .int .i64 0]) 2 16 Try.underlying87 HI.out.1 HI.out.2.1 HI.out.2.2.1 HI.out.2.2.2 rfl (by decide) _ _ _ rfl ((HOW.out.alloc _).alloc _) ⟨wr.heap.size + 1, 0, none⟩ 1 1 [.int .u8 (mop : Int), .int .i64 mkey] rfl rfl (two_new1 _ _ _ _ _) (two_one rfl rfl) (by have := HML2.out; unfold maxLen; omega) (by have := HML2.out; omega) (by have := HGS.out; rw [size_alloc, size_alloc]; omega) ?_)
          intro v4 w4 hown4 hgrow4 _
          have hb4 := (but_grown hgrow4)
          have hne6 := own_ne_block HOW.out HBK.out (by decide)
          have k6 : w4.heap[b6]? = some (.cells #[.int .u8 (op : Int), .int .i64 (on : Int), .int .i64 key, .int .i64 val, .slice va i vc] 89 (0, 0)) := hb4.at (at_alloc (at_alloc HBK.out)) fun e => by
            rcases hne6 with h | h
            · rw [h] at e; cases e
            · exact h e
          have HK6 := Lib.hid k6
          have hA2 : Below wr.heap.size wr ((wr.alloc (.cells #[.int .u8 (mop : Int), .int .i64 mkey] 44)).alloc (.cells #[.int .u8 (mop : Int), .int .i64 mkey] 110)) := ((Below.refl _ _).alloc (Nat.le_refl _) _).alloc (by rw [size_alloc]; omega) _
          have hbw : But (· = b6) Y w4 := (HG.out.1.trans (But.of_below hA2)).trans' (but_grown hgrow4) fun k hk e => by have := (HOW.out.lt k e).1; omega
          obtain ⟨g4, c4, rfl⟩ := own_shape hown4 (by omega)
          have HO4 := Lib.hid hown4
          have HBW := Lib.hid hbw
          have k4 := cell_at (j := 4) HK6.out rfl
          have f4 : w4.frozen? ⟨b6, 4, none⟩ = false := frozen_of_row _ _ _ _ _ HK6.out
          clear hb4 hne6 k6 hA2 hbw hgrow4 hown4 z4
          go_wp2_with fail
          go_roundg (gk - 1)
          case measure => omega
          case rel =>
            refine ⟨i + 1, _, by omega, rfl, HBW.out.trans ((But.refl (· = b6) w4).setCell (p := ⟨b6, 4, none⟩) (.inl rfl) _), heap_setCell_same _ _ _ _ _ _ HK6.out, ?_, HB6.out.2⟩
            rw [List.take_add_one, HXI.out]
            show World.ownsRow _ _ 110 2 _ _ (mcells (ms.take i ++ [(mop, mkey)]))
            rw [mcells_append]
            refine own_but HO4.out ((But.refl (· = b6) w4).setCell (p := ⟨b6, 4, none⟩) (.inl rfl) _) (own_off HO4.out HK6.out (by decide))
        · have d1 : decide ((i : Int) < (m : Int)) = false := by simp; omega
          have him : i = m := by omega
          have HMV2 : Hid (MvT wr (.slice va i vc) ms) := MvT.of_own (n := i) (by rw [him, HMM.out]) (by
            have h := HOW.out
            rw [List.take_of_length_le (by rw [him, HMM.out]; exact Nat.le_refl _)] at h
            exact h)
          obtain hsl := HMV2.out.sl
          obtain ⟨rs, ho1, ho2, ho3⟩ := HO.out
          have HO2 := Lib.hid (own_below ho2 HZW.out)
          have HO3 := Lib.hid ho3
          have HO1 := Lib.hid ho1
          have hjl : (l.take j).length = j := by rw [List.length_take, ← HN.out]; omega
          rw [hjl] at HO2
          have HJL := Lib.hid hjl
          have z0 := cell_at (j := 0) HBK.out rfl
          have z1 := cell_at (j := 1) HBK.out rfl
          have z2 := cell_at (j := 2) HBK.out rfl
          have z3 := cell_at (j := 3) HBK.out rfl
          have z4 := cell_at (j := 4) HBK.out rfl
          have hws : w.heap.size ≤ wr.heap.size := Nat.le_trans HB.out.size HZW.out.size
          have HWS := Lib.hid hws
          clear ho1 ho2 ho3 him hws hjl
          have hone := HMV2.out.one
          have HSL := Lib.hid hsl
          clear hsl
          go_wp2_with (at_builtin; refine wpList_append_own _ rfl (.tmp 38) (.tmp 40) 57 rfl w.heap.size 89 i89 (.agg #[.int .u8 0, .int .i64 0, .int .i64 0, .int .i64 0, .slice none 0 0]) 5 56 Try.underlying57 HJ.out.1 HJ.out.2.1 HJ.out.2.2.1 HJ.out.2.2.2 rfl (by decide) _ _ _ rfl (HO2.out.alloc _) ⟨wr.heap.size, 0, none⟩ 1 1 [.int .u8 (op : Int), .int .i64 (on : Int), .int .i64 key, .int .i64 val, .slice va i vc] rfl rfl (five_new _ _ _ _ _ _ _) (five_one rfl rfl rfl rfl hone) (by unfold maxLen; omega) (by omega) (by have := HWS.out; rw [size_alloc]; omega) ?_)
          intro v5 w5 hown5 hgrow5 _
          have hA5 : Below wr.heap.size wr (wr.alloc (.cells #[.int .u8 (op : Int), .int .i64 (on : Int), .int .i64 key, .int .i64 val, .slice va i vc] 89)) := (Below.refl _ _).alloc (Nat.le_refl _) _
          have hkb : KB 89 wr w5 := (KB.of_below 89 hA5).trans (KB.grown (own_below HO2.out hA5) hgrow5)
          have HB5 : Hid (Below w.heap.size w w5) := (HB.out.trans (HZW.out.mono HB.out.size)).trans (below_grown ((Below.refl w.heap.size wr).alloc HWS.out (.cells #[.int .u8 (op : Int), .int .i64 (on : Int), .int .i64 key, .int .i64 val, .slice va i vc] 89)) HO2.out (Nat.le_refl _) HWS.out hgrow5)
          have HST : Hid (StpsT 89 w5 w.heap.size v5 (l.take (j + 1))) := by
            show StpsT 89 w5 w.heap.size v5 (l.take (j + 1))
            rw [List.take_add_one, HX.out]
            refine stps_snoc (rs := rs) (r := .slice va i vc) HO1.out (by rw [HJL.out]; exact hown5) (fun i' s' r' h1 h2 => ((HO3.out i' s' r' h1 h2).kb (by decide) (KB.of_below 0 HZW.out)).kb (by decide) hkb) (HMV2.out.kb (by decide) hkb)
          clear hA5 hkb hown5 hgrow5 z0 z1 z2 z3 z4 hone
          go_wp2_with fail
          go_roundg (kk - 1)
          case measure => omega
          case rel => exact ⟨j + 1, by omega, rfl, HST.out, HB5.out⟩
    · have h1 : decide ((j : Int) < (n : Int)) = false := by simp; omega
      have hjn : j = n := by omega
      have HJN := Lib.hid hjn
      clear hjn
      go_wp2_with fail
      refine bodyPost_ret (results_tmp rfl _ _ _) rfl ?_
      refine ⟨_, rfl, ?_, HB.out⟩
      have h := HO.out
      rwa [List.take_of_length_le (by rw [HJN.out, HN.out]; exact Nat.le_refl _)] at h
end Go.Proofs.Ytefigjdebakccaa
