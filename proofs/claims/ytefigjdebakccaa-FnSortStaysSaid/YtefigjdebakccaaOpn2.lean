/- The arguments of the laws on sorted maps, opened: moves; steps, each with its moves. -/
import Derived.Test.YtefigjdebakccaaOpn
import Derived.Test.YtefigjdebakccaaSRig
namespace Go.Proofs.Ytefigjdebakccaa
open Go.ChangeShapes Go.WideShapes Go.ChangeAt Go.RowKit

theorem cellsOf27 : Try.prog.cellsOf 27 = 5 := by kernel_rfl
theorem cellsOf44 : Try.prog.cellsOf 44 = 2 := by kernel_rfl
instance : Inhabited RSt := ⟨⟨0, 0, 0, 0, []⟩⟩

set_option maxRecDepth 100000 in
theorem mov_each {H : Type} {enc : TypeId × Value → H} {W : World} {sb so i n base : Nat} {spare : Nat → Bool} {held : Bool} {cs' : List Value} {x : DataW H × List MemPlace}
    (h1 : W.cells? 0 ((⟨sb, so, none⟩ : Addr).add (i * 2)) 2 = some cs') (h2 : DataW.trod enc Try.prog W base spare held n 44 cs' = some x) :
    ∃ m : Mv, W.cell? ⟨sb, so + i * 2, none⟩ = some (.int .u8 (m.1 : Int)) ∧ W.cell? ⟨sb, so + i * 2 + 1, none⟩ = some (.int .i64 m.2) := by
  obtain ⟨_, hlen, hcell⟩ := World.cells?_some h1
  obtain ⟨xs, k, _, _, _, hxl, hf⟩ := DataW.trod_struct Try.underlying44 h2
  have hxl' : xs.length = 2 := hxl
  match cs', hlen, xs, hxl' with
  | [v0, v1], _, [y0, y1], _ =>
    have f0 : DataW.trod enc Try.prog W base spare held k 5 [v0] = some y0 := hf 0 _ rfl
    have f1 : DataW.trod enc Try.prog W base spare held k 3 [v1] = some y1 := hf 1 _ rfl
    obtain ⟨n0, e0, _, w0⟩ := DataW.trod_int Try.underlying5 f0
    obtain ⟨n1, e1, _⟩ := DataW.trod_int Try.underlying3 f1
    simp at e0 e1
    subst e0
    subst e1
    have h0 : 0 ≤ n0 := (wf_u8 w0).1
    have c0 := hcell 0 (by omega)
    have c1 := hcell 1 (by omega)
    rw [Addr.add_lit, Addr.add_lit] at c0 c1
    refine ⟨(n0.toNat, n1), ?_, c1⟩
    have e : ((n0.toNat : Nat) : Int) = n0 := by omega
    simp only [e]
    exact c0

set_option maxRecDepth 100000 in
theorem mov_trod {H : Type} {enc : TypeId × Value → H} {W : World} {fuel : Nat} {held : Bool} {v : Value} {x : DataW H × List MemPlace} (hf : DataW.trod enc Try.prog W 0 (fun _ => true) held fuel 25 [v] = some x) : ∃ ms : List Mv, MovesV W v ms := by
  rcases Deep.open_slice Try.underlying25 hf with ⟨hcs, _⟩ | ⟨a, len, cap, m, n, D, Pl, hcs, _, hl, hm, hmm, hx, hall⟩
  · simp only [List.cons.injEq, and_true] at hcs
    subst hcs
    exact ⟨[], movesV_nil W⟩
  · simp only [List.cons.injEq, and_true] at hcs
    subst hcs
    simp only [if_true] at hmm
    subst hmm
    rw [cellsOf44] at hall
    rcases Nat.eq_zero_or_pos len with h0 | h0
    · subst h0
      exact ⟨[], some a, _, rfl, fun j s hs => by simp at hs⟩
    · obtain ⟨cs0, g1, _⟩ := hall 0 (by omega)
      obtain ⟨_, hl5, g2⟩ := World.cells?_some g1
      have g3 := g2 0 (by omega)
      obtain ⟨b, o, rfl⟩ : ∃ b o, a = ⟨b, o, none⟩ := by
        match cs0, hl5 with
        | v0 :: _, _ =>
          rw [Nat.zero_mul] at g3
          have : a.add 0 = a := by simp [Addr.add]
          rw [this] at g3
          exact spot_none g3
      obtain ⟨f, hfun⟩ := Deep.choose_lt (n := len) (p := fun i (m : Mv) => W.cell? ⟨b, o + i * 2, none⟩ = some (.int .u8 (m.1 : Int)) ∧ W.cell? ⟨b, o + i * 2 + 1, none⟩ = some (.int .i64 m.2)) (fun i hi => by
        obtain ⟨cs', h1, h2⟩ := hall i (by omega)
        exact mov_each h1 h2)
      refine ⟨(List.range len).map f, some ⟨b, o, none⟩, _, by rw [List.length_map, List.length_range], fun j s hs => ⟨b, o, rfl, ?_⟩⟩
      simp only [List.getElem?_map, Option.map_eq_some_iff] at hs
      obtain ⟨i, hi, rfl⟩ := hs
      have hij : i = j ∧ j < len := by
        rw [List.getElem?_eq_some_iff] at hi
        obtain ⟨h1, h2⟩ := hi
        simp at h1 h2
        exact ⟨h2.symm, h1⟩
      obtain ⟨rfl, hlt⟩ := hij
      exact hfun i hlt
set_option maxRecDepth 100000 in
/-- a slice of moves, opened -/
theorem mov_open {H : Type} {enc : TypeId × Value → H} {W : World} {r : Reach} {base : Nat} {sv : Value} {d : DataW H} {ps : List MemPlace} (hval : Value.okWide Try.prog W r base 25 sv) (h : DataW.Trod enc Try.prog W 0 (fun _ => true) true 25 sv d ps) : ∃ ms : List Mv, MovesV W sv ms ∧ True := by
  obtain ⟨a0, len, cap, rfl⟩ := okWide_slice Try.underlying25 hval
  obtain ⟨fuel, hf⟩ := h
  obtain ⟨ms, hm⟩ := mov_trod (v := .slice a0 len cap) hf
  exact ⟨ms, hm, trivial⟩

set_option maxRecDepth 100000 in
theorem stp_each {H : Type} {enc : TypeId × Value → H} {W : World} {sb so i n : Nat} {held : Bool} {cs' : List Value} {x : DataW H × List MemPlace}
    (h1 : W.cells? 0 ((⟨sb, so, none⟩ : Addr).add (i * 5)) 5 = some cs') (h2 : DataW.trod enc Try.prog W 0 (fun _ => true) held n 27 cs' = some x) :
    ∃ s : RSt, ∃ mv, W.cell? ⟨sb, so + i * 5, none⟩ = some (.int .u8 (s.op : Int)) ∧ W.cell? ⟨sb, so + i * 5 + 1, none⟩ = some (.int .i64 s.on) ∧ W.cell? ⟨sb, so + i * 5 + 2, none⟩ = some (.int .i64 s.key) ∧ W.cell? ⟨sb, so + i * 5 + 3, none⟩ = some (.int .i64 s.val) ∧ W.cell? ⟨sb, so + i * 5 + 4, none⟩ = some mv ∧ MovesV W mv s.moves := by
  obtain ⟨_, hlen, hcell⟩ := World.cells?_some h1
  obtain ⟨xs, k, _, _, _, hxl, hf⟩ := DataW.trod_struct Try.underlying27 h2
  have hxl' : xs.length = 5 := hxl
  match cs', hlen, xs, hxl' with
  | [v0, v1, v2, v3, v4], _, [y0, y1, y2, y3, y4], _ =>
    have f0 : DataW.trod enc Try.prog W 0 (fun _ => true) held k 5 [v0] = some y0 := hf 0 _ rfl
    have f1 : DataW.trod enc Try.prog W 0 (fun _ => true) held k 3 [v1] = some y1 := hf 1 _ rfl
    have f2 : DataW.trod enc Try.prog W 0 (fun _ => true) held k 3 [v2] = some y2 := hf 2 _ rfl
    have f3 : DataW.trod enc Try.prog W 0 (fun _ => true) held k 3 [v3] = some y3 := hf 3 _ rfl
    have f4 : DataW.trod enc Try.prog W 0 (fun _ => true) held k 25 [v4] = some y4 := hf 4 _ rfl
    obtain ⟨n0, e0, _, w0⟩ := DataW.trod_int Try.underlying5 f0
    obtain ⟨n1, e1, _⟩ := DataW.trod_int Try.underlying3 f1
    obtain ⟨n2, e2, _⟩ := DataW.trod_int Try.underlying3 f2
    obtain ⟨n3, e3, _⟩ := DataW.trod_int Try.underlying3 f3
    obtain ⟨ms, hms⟩ := mov_trod f4
    simp at e0 e1 e2 e3
    subst e0
    subst e1
    subst e2
    subst e3
    have h0 : 0 ≤ n0 := (wf_u8 w0).1
    have c0 := hcell 0 (by omega)
    have c1 := hcell 1 (by omega)
    have c2 := hcell 2 (by omega)
    have c3 := hcell 3 (by omega)
    have c4 := hcell 4 (by omega)
    rw [Addr.add_lit, Addr.add_lit] at c0 c1 c2 c3 c4
    refine ⟨⟨n0.toNat, n1, n2, n3, ms⟩, v4, ?_, c1, c2, c3, c4, hms⟩
    have e : ((n0.toNat : Nat) : Int) = n0 := by omega
    simp only [e]
    exact c0

set_option maxRecDepth 100000 in
/-- a slice of steps, opened -/
theorem stp_open {H : Type} {enc : TypeId × Value → H} {W : World} {r : Reach} {base : Nat} {sv : Value} {d : DataW H} {ps : List MemPlace} (hval : Value.okWide Try.prog W r base 28 sv) (h : DataW.Trod enc Try.prog W 0 (fun _ => true) true 28 sv d ps) : ∃ l : List RSt, RStpsV W sv l ∧ True := by
  obtain ⟨a0, len, cap, rfl⟩ := okWide_slice Try.underlying28 hval
  obtain ⟨fuel, hf⟩ := h
  rcases Deep.open_slice Try.underlying28 hf with ⟨hcs, _⟩ | ⟨a, len', cap', m, n, D, Pl, hcs, _, hl, hm, hmm, hx, hall⟩
  · simp [Value.cells] at hcs
    obtain ⟨rfl, rfl, rfl⟩ := hcs
    exact ⟨[], ⟨none, 0, rfl, fun _ => rfl, fun j s hs => by simp at hs⟩, trivial⟩
  · simp [Value.cells] at hcs
    obtain ⟨rfl, rfl, rfl⟩ := hcs
    simp only [if_true] at hmm
    subst hmm
    rw [cellsOf27] at hall
    rcases Nat.eq_zero_or_pos len with h0 | h0
    · subst h0
      exact ⟨[], ⟨some a, _, rfl, nofun, fun j s hs => by simp at hs⟩, trivial⟩
    · obtain ⟨cs0, g1, _⟩ := hall 0 (by omega)
      obtain ⟨_, hl5, g2⟩ := World.cells?_some g1
      have g3 := g2 0 (by omega)
      obtain ⟨b, o, rfl⟩ : ∃ b o, a = ⟨b, o, none⟩ := by
        match cs0, hl5 with
        | v0 :: _, _ =>
          rw [Nat.zero_mul] at g3
          have : a.add 0 = a := by simp [Addr.add]
          rw [this] at g3
          exact spot_none g3
      obtain ⟨f, hfun⟩ := Deep.choose_lt (n := len) (p := fun i (s : RSt) => ∃ mv, W.cell? ⟨b, o + i * 5, none⟩ = some (.int .u8 (s.op : Int)) ∧ W.cell? ⟨b, o + i * 5 + 1, none⟩ = some (.int .i64 s.on) ∧ W.cell? ⟨b, o + i * 5 + 2, none⟩ = some (.int .i64 s.key) ∧ W.cell? ⟨b, o + i * 5 + 3, none⟩ = some (.int .i64 s.val) ∧ W.cell? ⟨b, o + i * 5 + 4, none⟩ = some mv ∧ MovesV W mv s.moves) (fun i hi => by
        obtain ⟨cs', h1, h2⟩ := hall i (by omega)
        exact stp_each h1 h2)
      refine ⟨(List.range len).map f, ⟨some ⟨b, o, none⟩, _, by rw [List.length_map, List.length_range], nofun, fun j s hs => ?_⟩, trivial⟩
      simp only [List.getElem?_map, Option.map_eq_some_iff] at hs
      obtain ⟨i, hi, rfl⟩ := hs
      have hij : i = j ∧ j < len := by
        rw [List.getElem?_eq_some_iff] at hi
        obtain ⟨h1, h2⟩ := hi
        simp at h1 h2
        exact ⟨h2.symm, h1⟩
      obtain ⟨rfl, hlt⟩ := hij
      obtain ⟨mv, q0, q1, q2, q3, q4, q5⟩ := hfun i hlt
      exact ⟨b, o, mv, rfl, q0, q1, q2, q3, q4, q5⟩
end Go.Proofs.Ytefigjdebakccaa
