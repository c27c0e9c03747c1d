/- A map is filled with keys, and asked. -/
import Derived.Test.YtefigjdebakccaaTos
import Derived.Test.YtefigjdebakccaaAwk
namespace Go.Proofs.Ytefigjdebakccaa
open Go.RowKit

section
variable (lt : Int → Int → Bool)
theorem run_app : ∀ (a : List Stp) (vs : List Es) (b : List Stp), run lt vs (a ++ b) = run lt vs a ++ run lt (vers lt vs a) b
  | [], _, _ => rfl
  | s :: a, vs, b => by
    show tell lt (verOf vs s) s :: run lt (next lt vs s) (a ++ b) = _
    rw [run_app a]
    rfl
theorem vers_app : ∀ (a : List Stp) (vs : List Es) (b : List Stp), vers lt vs (a ++ b) = vers lt (vers lt vs a) b
  | [], _, _ => rfl
  | s :: a, vs, b => vers_app a (next lt vs s) b
theorem vers_fill : ∀ (xs : List Int) (i : Nat) (vs : List Es) (es : Es), vs.length = i + 1 → vs[i]? = some es → (vers lt vs (fillFrom i xs)).length = i + 1 + xs.length ∧ (vers lt vs (fillFrom i xs))[i + xs.length]? = some (fill lt i xs es)
  | [], _, _, _, hl, he => ⟨hl, he⟩
  | x :: xs, i, vs, es, hl, he => by
    have hv : verOf vs ⟨0, i, x, i, []⟩ = es := by unfold verOf; rw [List.getD_eq_getElem?_getD, he]; rfl
    have hn : next lt vs ⟨0, i, x, i, []⟩ = vs ++ [ins lt es x (i : Int)] := by unfold next; rw [if_pos rfl, hv]
    have h := vers_fill xs (i + 1) (vs ++ [ins lt es x (i : Int)]) (ins lt es x (i : Int)) (by rw [List.length_append, hl]; rfl) (by rw [List.getElem?_append_right (by omega), hl, Nat.sub_self]; rfl)
    show (vers lt (next lt vs ⟨0, i, x, i, []⟩) (fillFrom (i + 1) xs)).length = _ ∧ (vers lt (next lt vs ⟨0, i, x, i, []⟩) (fillFrom (i + 1) xs))[_]? = _
    rw [hn]
    refine ⟨by rw [h.1, List.length_cons]; omega, ?_⟩
    rw [List.length_cons, show i + (xs.length + 1) = i + 1 + xs.length by omega]
    exact h.2
theorem right_fill : ∀ (xs : List Int) (i : Nat) (b : List Stp), Right (i + 1 + xs.length) b → Right (i + 1) (fillFrom i xs ++ b)
  | [], _, _, h => h
  | x :: xs, i, b, h => by
    refine ⟨Nat.lt_succ_self _, Nat.zero_le _, nofun, Nat.zero_le _, ?_⟩
    rw [if_pos (Nat.zero_le _)]
    refine right_fill xs (i + 1) b ?_
    rw [List.length_cons] at h
    rw [show i + 1 + 1 + xs.length = i + 1 + (xs.length + 1) by omega]
    exact h
def upd (n : Nat) (s : Stp) : Stp := ⟨s.op, n, s.key, s.val, s.moves⟩
theorem run_asks {n : Nat} {es : Es} : ∀ (l : List Stp) (vs : List Es), vs[n]? = some es → (∀ s ∈ l, 2 ≤ s.op) → run lt vs (l.map (upd n)) = l.map (tell lt es)
  | [], _, _, _ => rfl
  | s :: l, vs, hv, h => by
    have h2 := h s (.head _)
    have hn : next lt vs (upd n s) = vs := by
      unfold next
      rw [if_neg (show ¬ (upd n s).op = 0 from (by show ¬ s.op = 0; omega)), if_neg (show ¬ (upd n s).op = 1 from (by show ¬ s.op = 1; omega))]
    have he : verOf vs (upd n s) = es := by
      unfold verOf
      rw [List.getD_eq_getElem?_getD]
      show (vs[n]?).getD [] = es
      rw [hv]
      rfl
    show tell lt (verOf vs (upd n s)) (upd n s) :: run lt (next lt vs (upd n s)) (l.map (upd n)) = _
    rw [hn, he, run_asks l vs hv fun x hx => h x (.tail _ hx)]
    rfl
theorem ask_run (xs : List Int) (asks : List Stp) (h : ∀ s ∈ asks, 2 ≤ s.op) : run lt [[]] (filled xs ++ asks.map (upd xs.length)) = run lt [[]] (filled xs) ++ asks.map (tell lt (fill lt 0 xs [])) := by
  obtain ⟨h1, h2⟩ := vers_fill lt xs 0 [[]] [] rfl rfl
  rw [Nat.zero_add] at h2
  rw [run_app]
  congr 1
  exact run_asks lt asks _ h2 h
theorem right_asks {n v : Nat} (hn : n < v) : ∀ (l : List Stp), (∀ s ∈ l, 2 ≤ s.op ∧ s.op ≤ 6 ∧ (∀ m ∈ s.moves, m.1 ≤ 5) ∧ s.moves.length ≤ 100000) → Right v (l.map (upd n))
  | [], _ => trivial
  | s :: l, h => by
    obtain ⟨h1, h2, h3, h4⟩ := h s (.head _)
    refine ⟨hn, h2, h3, h4, ?_⟩
    rw [if_neg (show ¬ (upd n s).op ≤ 1 from (by show ¬ s.op ≤ 1; omega))]
    exact right_asks hn l fun x hx => h x (.tail _ hx)
theorem filled_len (xs : List Int) : (filled xs).length = xs.length := fillFrom_len xs 0
theorem fcells_st : ∀ (xs : List Int) (i : Nat), fcells i xs = stcells (fillFrom i xs) (List.replicate xs.length (.slice none 0 0))
  | [], _ => rfl
  | x :: xs, i => by
    show _ :: _ :: _ :: _ :: _ :: fcells (i + 1) xs = _
    rw [fcells_st xs (i + 1)]
    rfl
end
/-- a row of steps whose moves lie somewhere -/
theorem stps_read {T : TypeId} {w : World} {B n : Nat} {v : Value} {l : List Stp} {rs : List Value} (h0 : rs.length = l.length) (hn : n = l.length) (h1 : w.ownsRow B T 5 v n (stcells l rs)) (h2 : ∀ (i : Nat) (s : Stp) (r : Value), l[i]? = some s → rs[i]? = some r → MovesV w r s.moves) : StpsV w v l := by
  obtain ⟨a, c, hv⟩ := own_len h1
  refine ⟨a, c, by rw [hv, hn], fun i s hs => ?_⟩
  obtain ⟨r, hr⟩ : ∃ r, rs[i]? = some r := ⟨_, List.getElem?_eq_getElem (by rw [h0]; exact (List.getElem?_eq_some_iff.1 hs).1)⟩
  obtain ⟨k1, k2, k3, k4, k5⟩ := stcells_at hs hr
  obtain ⟨g, c1, e1, q1⟩ := own_read h1 k1
  obtain ⟨g2, c2, e2, q2⟩ := own_read h1 k2
  obtain ⟨g3, c3, e3, q3⟩ := own_read h1 k3
  obtain ⟨g4, c4, e4, q4⟩ := own_read h1 k4
  obtain ⟨g5, c5, e5, q5⟩ := own_read h1 k5
  rw [hv] at e1 e2 e3 e4 e5
  simp only [Value.slice.injEq] at e1 e2 e3 e4 e5
  have k2 : g2 = g := by have := e2.1.symm.trans e1.1; simpa using this
  have k3 : g3 = g := by have := e3.1.symm.trans e1.1; simpa using this
  have k4 : g4 = g := by have := e4.1.symm.trans e1.1; simpa using this
  have k5 : g5 = g := by have := e5.1.symm.trans e1.1; simpa using this
  subst k2 k3 k4 k5
  exact ⟨g5, 0, _, e1.1, by rw [Nat.zero_add]; exact q1, by rw [Nat.zero_add]; exact q2, by rw [Nat.zero_add]; exact q3, by rw [Nat.zero_add]; exact q4, by rw [Nat.zero_add]; exact q5, h2 i s r hs hr⟩
theorem sl29 : Try.prog.underlying 29 = some (.slice (Try.prog.elem 29)) := by kernel_rfl
theorem elem29 (w : World) : (sizeOf (Try.prog.elem 29)).run Try.prog w = .ok 5 w := by kernel_rfl
theorem slice29_l (a : Option Addr) (n c l : Nat) (h : Home a n c) (hl : l ≤ n) : ∃ d : Option Addr, (l < c → ∀ g, a = some ⟨g, 0, none⟩ → d = some ⟨g, l * 5, none⟩) ∧
    ∀ w : World, (Instr.slice 29 (.slice a n c) (some (.int .i64 (l : Int))) none none).run Try.prog w = .ok (.slice d (n - l) (c - l)) w := by
  obtain ⟨h1, h2, h3⟩ := h
  refine ⟨if c = l then a else a.map (·.add (l * 5)), fun hlc g hg => ?_, fun w => ?_⟩
  · rw [if_neg (by omega), hg]
    simp only [Option.map_some, addr_add, Nat.zero_add]
  · rw [run_slice_l (w := w) 29 a n c sl29 .i64 l (by omega) (by omega), elem29]
    simp only [Result.andThen_ok, sliced, Int.toNat_natCast]
theorem own_home {w : World} {B s n : Nat} {e : TypeId} {cs : List Value} {a : Option Addr} {k c : Nat} (h : w.ownsRow B e s (.slice a k c) n cs) : k = n ∧ Home a n c := by
  rcases h.2 with ⟨h1, h0⟩ | ⟨g, cap, cur, h1, h2, h3, h4, h5⟩
  · simp only [Value.slice.injEq] at h1
    obtain ⟨rfl, rfl, rfl⟩ := h1
    exact ⟨h0.symm, by omega, fun _ => rfl, fun x hx => by cases hx⟩
  · simp only [Value.slice.injEq] at h1
    obtain ⟨rfl, rfl, rfl⟩ := h1
    exact ⟨rfl, h4, fun e => (by cases e), fun x hx => ⟨g, (Option.some.inj hx).symm⟩⟩
theorem tolds_drop {w : World} {B n N c : Nat} {a d : Option Addr} {ts : List Told} (h : ToldsV w B (.slice a N c) ts) (hd : n < c → ∀ g, a = some ⟨g, 0, none⟩ → d = some ⟨g, n * 5, none⟩) : TldV w (.slice d (N - n) (c - n)) (ts.drop n) := by
  obtain ⟨rs, h0, h1, h2⟩ := h
  obtain ⟨hk, hh⟩ := own_home h1
  refine ⟨d, c - n, by rw [List.length_drop, hk], fun i t ht => ?_⟩
  rw [List.getElem?_drop] at ht
  have hlt := (List.getElem?_eq_some_iff.1 ht).1
  obtain ⟨r, hr⟩ : ∃ r, rs[n + i]? = some r := ⟨_, List.getElem?_eq_getElem (by rw [h0]; exact hlt)⟩
  obtain ⟨k1, k2, k3, k4, k5⟩ := tcells_at ht hr
  obtain ⟨g, cc, hs⟩ := own_shape h1 (by omega)
  simp only [Value.slice.injEq] at hs
  obtain ⟨rfl, hs2, rfl⟩ := hs
  have hlc : n < c := by have := hh.1; omega
  obtain ⟨v1, v2, v3⟩ := h2 (n + i) t r ht hr
  have e : ∀ j, n * 5 + i * 5 + j = (n + i) * 5 + j := fun j => by omega
  have e0 : n * 5 + i * 5 = (n + i) * 5 := by omega
  rw [hk] at h1
  exact ⟨g, n * 5, r.1, r.2.1, r.2.2, hd hlc g rfl, by rw [e0]; exact own_cell5 h1 k1, by rw [e]; exact own_cell5 h1 k2, by rw [e]; exact own_cell5 h1 k3, by rw [e]; exact own_cell5 h1 k4, by rw [e]; exact own_cell5 h1 k5, v1, v2, v3⟩
theorem five_new1 (w : World) (a b c d e : Value) (t : TypeId) (o : Obj) : ∀ j u, [a, b, c, d, e][j]? = some u → ((w.alloc o).alloc (.cells #[a, b, c, d, e] t)).cell? ((⟨w.heap.size + 1, 0, none⟩ : Addr).add j) = some u := fun j u hu => by
  have h := five_new (w.alloc o) a b c d e t j u hu
  rw [size_alloc] at h
  exact h
theorem stps_open_one {w : World} {a : Option Addr} {n c j : Nat} {l : List Stp} {s : Stp} (h : StpsV w (.slice a n c) l) (hs : l[j]? = some s) : ∃ g q mv, a = some ⟨g, q, none⟩ ∧ w.cell? ⟨g, q + j * 5, none⟩ = some (.int .u8 (s.op : Int)) ∧ w.cell? ⟨g, q + j * 5 + 1, none⟩ = some (.int .i64 (s.on : Int)) ∧
    w.cell? ⟨g, q + j * 5 + 2, none⟩ = some (.int .i64 s.key) ∧ w.cell? ⟨g, q + j * 5 + 3, none⟩ = some (.int .i64 s.val) ∧ w.cell? ⟨g, q + j * 5 + 4, none⟩ = some mv ∧ MovesV w mv s.moves := by
  obtain ⟨a', c', h1, h2⟩ := h
  simp only [Value.slice.injEq] at h1
  obtain ⟨g, q, mv, h3, h4⟩ := h2 j s hs
  exact ⟨g, q, mv, h1.1.trans h3, h4⟩

set_option maxRecDepth 100000 in
set_option maxHeartbeats 3200000 in
theorem ask_w (o : Nat) (u : Value) (xs : List Int) (av : Value) (asks : List Stp) (w : World) (hu : RdI w u xs) (hl : xs.length ≤ 400) (ha : StpsV w av asks) (hal : asks.length ≤ 300) (hok : ∀ s ∈ asks, 2 ≤ s.op ∧ s.op ≤ 6 ∧ (∀ m ∈ s.moves, m.1 ≤ 5) ∧ s.moves.length ≤ 100000) :
    Calls Try.prog 17 #[.int .u8 (o : Int), u, av] w fun e w' => ∃ v, e = .returned (.tuple #[v, .bool true]) ∧ TldV w' v (asks.map (tell (ltO o) (fill (ltO o) 0 xs []))) ∧ Below w.heap.size w w' := by
  obtain ⟨i27, hi, hz0, hz1, hz2⟩ := info_parts info27
  have HI := Lib.hid (And.intro hi (And.intro hz0 (And.intro hz1 hz2)))
  clear hi hz0 hz1 hz2
  have HFL := Lib.hid (filled_w u xs w hu (by omega))
  have HA := Lib.hid ha
  have HOK := Lib.hid hok
  obtain ⟨aa, ac, rfl, -⟩ := ha
  obtain ⟨ua, uc, rfl, -⟩ := hu
  obtain ⟨n, hn⟩ : ∃ n, n = xs.length := ⟨_, rfl⟩
  obtain ⟨m, hm⟩ : ∃ m, m = asks.length := ⟨_, rfl⟩
  rw [← hn] at hl HFL ⊢
  rw [← hm] at hal HA ⊢
  have HN := Lib.hid hn
  have HM := Lib.hid hm
  clear hok hn hm
  go_enter Try.func17, Try.ntmps17
  go_wp2_with fail
  refine HFL.out.mono ?_
  rintro e w1 ⟨v1, rfl, ho1, hb1⟩
  have HB1 := Lib.hid hb1
  have HO1 := Lib.hid ho1
  clear HFL hb1 ho1
  go_wp2_with fail
  go_loopg [8, 16] m (fun k sv v wr => ∃ (j : Nat) (rs : List Value), j + k = m ∧ v = .int .i64 (j : Int) ∧ rs.length = n + j ∧ wr.ownsRow w.heap.size 27 5 sv (n + j) (stcells (filled xs ++ (asks.take j).map (upd n)) rs) ∧ (∀ (i : Nat) (s : Stp) (r : Value), (filled xs ++ (asks.take j).map (upd n))[i]? = some s → rs[i]? = some r → MovesV w r s.moves) ∧ Below w.heap.size w wr)
  case atStart =>
    refine ⟨0, List.replicate n (.slice none 0 0), by omega, rfl, by simp, ?_, fun i s r h1 h2 => ?_, HB1.out⟩
    · have h := HO1.out
      rw [fcells_st, ← HN.out] at h
      simpa [filled] using h
    · have h1 : (filled xs)[i]? = some s := by simpa using h1
      have := List.mem_replicate.1 (List.mem_of_getElem? h2)
      rw [this.2, (fcells_at xs 0 i s h1).2.2.2.2.2]
      exact movesV_nil w
  case round =>
    obtain ⟨j, rs, hjk, rfl, hrl, ho, hmo, hb⟩ := hrel
    obtain ⟨P, hP⟩ : ∃ P, P = (asks.take j).map (upd n) := ⟨_, rfl⟩
    rw [← hP] at ho hmo
    have HP := Lib.hid hP
    clear hP
    have HO := Lib.hid ho
    have HB := Lib.hid hb
    have HMO := Lib.hid hmo
    have HRL := Lib.hid hrl
    clear ho hb hmo hrl
    by_cases hlt : j < m
    · have h1 : decide ((j : Int) < (m : Int)) = true := by simp; omega
      have hw1 : IntKind.i64.wrap ((j : Int) + 1) = (j : Int) + 1 := by rw [IntKind.wrap_i64]; omega
      have hj0 : (0 : Int) ≤ (j : Int) := by omega
      have hj1 : (j : Int) < (m : Int) := by omega
      obtain ⟨s, hs⟩ : ∃ s, asks[j]? = some s := ⟨_, List.getElem?_eq_getElem (by rw [← HM.out]; exact hlt)⟩
      obtain ⟨g, q, mv, hma, c0, c1, c2, c3, c4, hmv⟩ := stps_open_one HA.out hs
      subst hma
      have HX := Lib.hid hs
      obtain ⟨op, on, key, val, ms⟩ := s
      have HMV := Lib.hid hmv
      obtain ⟨ma, mc, rfl, -⟩ := hmv
      obtain ⟨ml, hml⟩ : ∃ ml, ml = ms.length := ⟨_, rfl⟩
      simp only [← hml] at c4 HMV
      have HML := Lib.hid hml
      replace c0 := bcell HB.out c0
      replace c1 := bcell HB.out c1
      replace c2 := bcell HB.out c2
      replace c3 := bcell HB.out c3
      replace c4 := bcell HB.out c4
      clear hs hml
      go_upto_region 6 with (fail)
      have hws : w.heap.size ≤ wr.heap.size := HB.out.size
      have HWS := Lib.hid hws
      clear c0 c1 c2 c3 c4 hws
      go_wp2_with (at_builtin; refine wpList_append_own _ rfl (.tmp 23) (.tmp 25) 28 rfl w.heap.size 27 i27 (.agg #[.int .u8 0, .int .i64 0, .int .i64 0, .int .i64 0, .slice none 0 0]) 5 56 Try.underlying28 HI.out.1 HI.out.2.1 HI.out.2.2.1 HI.out.2.2.2 rfl (by decide) _ _ _ rfl ((HO.out.alloc _).alloc _) ⟨wr.heap.size + 1, 0, none⟩ 1 1 [.int .u8 (op : Int), .int .i64 (n : Int), .int .i64 key, .int .i64 val, .slice ma ml mc] rfl rfl (five_new1 _ _ _ _ _ _ _ _) (five_one rfl rfl rfl rfl rfl) (by unfold maxLen; omega) (by omega) (by have := HWS.out; rw [size_alloc, size_alloc]; omega) ?_)
      intro v4 w4 hown4 hgrow4 _
      have hb2 : Below w.heap.size wr ((wr.alloc (.cells #[.int .u8 (op : Int), .int .i64 (n : Int), .int .i64 key, .int .i64 val, .slice ma ml mc] 27)).alloc (.cells #[.int .u8 (op : Int), .int .i64 (n : Int), .int .i64 key, .int .i64 val, .slice ma ml mc] 27)) := ((Below.refl _ wr).alloc HWS.out _).alloc (by rw [size_alloc]; have := HWS.out; omega) _
      have HB4 := Lib.hid (HB.out.trans (below_grown hb2 HO.out (Nat.le_refl _) HWS.out hgrow4))
      have HO4 : Hid (w4.ownsRow w.heap.size 27 5 v4 (n + (j + 1)) (stcells (filled xs ++ (asks.take (j + 1)).map (upd n)) (rs ++ [.slice ma ml mc]))) := by
        show w4.ownsRow w.heap.size 27 5 v4 (n + (j + 1)) (stcells (filled xs ++ (asks.take (j + 1)).map (upd n)) (rs ++ [.slice ma ml mc]))
        rw [List.take_add_one, HX.out]
        simp only [Option.toList_some, List.map_append, List.map_cons, List.map_nil]
        rw [← HP.out, ← List.append_assoc, stcells_snoc _ _ (by rw [HP.out, List.length_append, List.length_map, filled_len, List.length_take, ← HN.out, ← HM.out, HRL.out]; omega)]
        exact hown4
      have HMO4 : Hid (∀ (i : Nat) (s : Stp) (r : Value), (filled xs ++ (asks.take (j + 1)).map (upd n))[i]? = some s → (rs ++ [.slice ma ml mc])[i]? = some r → MovesV w r s.moves) := by
        intro i s r h1 h2
        have hL : (filled xs ++ P).length = n + j := by rw [HP.out, List.length_append, List.length_map, filled_len, List.length_take, ← HN.out, ← HM.out]; omega
        rw [List.take_add_one, HX.out] at h1
        simp only [Option.toList_some, List.map_append, List.map_cons, List.map_nil] at h1
        rw [← HP.out, ← List.append_assoc] at h1
        rcases Nat.lt_or_ge i (n + j) with hi | hi
        · rw [List.getElem?_append_left (by rw [hL]; exact hi)] at h1
          rw [List.getElem?_append_left (by rw [HRL.out]; exact hi)] at h2
          exact HMO.out i s r h1 h2
        · rw [List.getElem?_append_right (by rw [hL]; exact hi), hL] at h1
          rw [List.getElem?_append_right (by rw [HRL.out]; exact hi), HRL.out] at h2
          have h0 : i - (n + j) = 0 := by
            rcases Nat.eq_zero_or_pos (i - (n + j)) with h | h
            · exact h
            · rw [List.getElem?_eq_none (by simp; omega)] at h1; cases h1
          rw [h0] at h1 h2
          simp only [List.getElem?_cons_zero, Option.some.injEq] at h1 h2
          subst h1 h2
          have h := HMV.out
          exact h
      clear hown4 hgrow4 hb2
      go_wp2_with fail
      go_roundg (gk - 1)
      case measure => omega
      case rel => exact ⟨j + 1, rs ++ [.slice ma ml mc], by omega, rfl, by rw [List.length_append, HRL.out, List.length_singleton]; omega, HO4.out, HMO4.out, HB4.out⟩
    · have h1 : decide ((j : Int) < (m : Int)) = false := by simp; omega
      have hjm : j = m := by omega
      have hL : (filled xs ++ P) = filled xs ++ asks.map (upd n) := by rw [HP.out, List.take_of_length_le (by rw [hjm, HM.out]; exact Nat.le_refl _)]
      rw [hL] at HO HMO
      obtain ⟨L, hLL⟩ : ∃ L, L = filled xs ++ asks.map (upd n) := ⟨_, rfl⟩
      rw [← hLL] at HO HMO
      have hlen : L.length = n + m := by rw [hLL, List.length_append, List.length_map, filled_len, ← HN.out, ← HM.out]
      have hst : StpsV wr u8 L := stps_read (by rw [hlen, HRL.out, hjm]) (by rw [hlen, hjm]) HO.out fun i s r h1 h2 => (HMO.out i s r h1 h2).below HB.out
      have hright : Right 1 L := by
        rw [hLL]
        refine right_fill xs 0 _ (right_asks (by rw [← HN.out]; omega) asks HOK.out)
      have hrun : (run (ltO o) [[]] L).drop n = asks.map (tell (ltO o) (fill (ltO o) 0 xs [])) := by
        rw [hLL, HN.out, ask_run (ltO o) xs asks fun s hs => (HOK.out s hs).1]
        exact List.drop_left' (by rw [run_len, filled_len])
      have hmv : ∀ s ∈ L, s.moves.length ≤ 100000 := by
        intro s hs
        rw [hLL] at hs
        rcases List.mem_append.1 hs with hs | hs
        · obtain ⟨i, hi⟩ := List.getElem?_of_mem hs
          rw [(fcells_at xs 0 i s hi).2.2.2.2.2]
          exact Nat.zero_le _
        · obtain ⟨s', hs', rfl⟩ := List.mem_map.1 hs
          exact (HOK.out s' hs').2.2.2
      have HT := Lib.hid (tosort_w u8 L wr hst (by rw [hlen]; omega) hmv)
      have HRI := Lib.hid hright
      have HRU := Lib.hid hrun
      have HLEN := Lib.hid hlen
      have HST := Lib.hid hst
      obtain ⟨ta, tc, htv⟩ := own_len HO.out
      subst htv
      have HJM := Lib.hid hjm
      clear hL hLL hlen hst hright hrun hmv hjm
      go_wp2_with fail
      refine HT.out.mono ?_
      rintro e w2 ⟨v2, rfl, hv2, hb2⟩
      have HRM := Lib.hid (runMaps_w o L v2 w2 hv2.stps HRI.out (by rw [HLEN.out]; omega))
      have HB2 : Hid (Below w.heap.size w w2) := HB.out.trans (hb2.mono HB.out.size)
      obtain ⟨v2a, v2c, rfl⟩ : ∃ a c, v2 = .slice a L.length c := by
        obtain ⟨rs2, -, h, -⟩ := hv2
        exact own_len h
      clear hv2 hb2
      go_wp2_with fail
      refine HRM.out.mono ?_
      rintro e w3 ⟨v3, rfl, hv3, hb3⟩
      have HB3 : Hid (Below w.heap.size w w3) := HB2.out.trans (hb3.mono HB2.out.size)
      have HV3 := Lib.hid hv3
      obtain ⟨v3a, v3c, rfl⟩ : ∃ a c, v3 = .slice a (n + m) c := by
        obtain ⟨rs2, -, h, -⟩ := hv3
        rw [run_len, HLEN.out] at h
        exact own_len h
      obtain ⟨d, hd1, hd2⟩ := slice29_l v3a (n + m) v3c n (by
        obtain ⟨rs2, -, h, -⟩ := hv3
        rw [run_len, HLEN.out] at h
        exact (own_home h).2) (by omega)
      have HD := Lib.hid hd1
      have hd3 := hd2 w3
      clear hv3 hb3 hd1 hd2
      rw [HJM.out]
      obtain ⟨N, hNN⟩ : ∃ N, N = n + m := ⟨_, rfl⟩
      rw [← hNN] at HV3 hd3 ⊢
      have HNN := Lib.hid hNN
      clear hNN
      have dne : ((N : Int) != (N : Int)) = false := by simp
      go_wp2_with fail
      go_ret2
      refine ⟨_, rfl, ?_, HB3.out⟩
      rw [← HRU.out]
      exact tolds_drop HV3.out HD.out
/-- two slices that read the same -/
theorem same_c {w : World} {u v : Value} {xs : List Int} (hu : RdI w u xs) (hv : RdI w v xs) (hl : xs.length < 100000000) (W : World) (hW : Below w.heap.size w W) : Calls Try.prog 18 #[u, v] W fun e w' => e = .returned (.bool true) ∧ Below W.heap.size W w' :=
  (equal_w u v xs xs W (hu.below hW) (hv.below hW) hl hl).mono fun e w' h => ⟨by rw [h.1, decide_eq_true rfl], h.2⟩
theorem ask_c (o : Nat) (oc : Int) (ho : oc = (o : Int)) (u : Value) (xs : List Int) (av : Value) (asks : List Stp) (w : World) (hu : RdI w u xs) (hl : xs.length ≤ 400) (ha : StpsV w av asks) (hal : asks.length ≤ 300) (hok : ∀ s ∈ asks, 2 ≤ s.op ∧ s.op ≤ 6 ∧ (∀ m ∈ s.moves, m.1 ≤ 5) ∧ s.moves.length ≤ 100000) :
    Calls Try.prog 17 #[.int .u8 oc, u, av] w fun e w' => ∃ v, e = .returned (.tuple #[v, .bool true]) ∧ TldV w' v (asks.map (tell (ltO o) (fill (ltO o) 0 xs []))) ∧ Below w.heap.size w w' := by
  subst ho
  exact ask_w o u xs av asks w hu hl ha hal hok
end Go.Proofs.Ytefigjdebakccaa
