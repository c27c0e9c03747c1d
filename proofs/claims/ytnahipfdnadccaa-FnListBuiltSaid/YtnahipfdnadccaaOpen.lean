/- math/bits' table holds bytes, in every world of the row's shape. Conditions of this file: none.

The arguments of the list laws, opened: steps; whole numbers. Conditions of this file: none. -/
import Derived.Test.YtnahipfdnadccaaLeafC
import Derived.Test.YtnahipfdnadccaaSpecT
import Derived.HandedShaped
import Derived.Deep.Slices
import Derived.ProofKit
namespace Go.Proofs.Ytnahipfdnadccaa
open Go.RowKit

set_option maxRecDepth 100000 in
theorem glob_shape {w : World} (h : w.ShapedOpen Try.prog) : Glob w := by
  obtain ⟨cs, hh, hs, hr⟩ := h.1 0 ((List.replicate 32 (Value.int .u8 0)).toArray) 144 (of_decide_eq_true (by kernel_rfl)) (by kernel_rfl)
  obtain ⟨ts, hts, _, hall⟩ := hr (by kernel_rfl)
  have hc : Try.prog.cellTypes Try.prog.depth 144 = some (List.replicate 32 5) := by kernel_rfl
  rw [hc] at hts
  cases hts
  have hsz : cs.size = 32 := hs
  refine ⟨cs, hh, fun k hk => ?_⟩
  have hk' : k < cs.size := by omega
  obtain ⟨u, hu', hok⟩ := hall k cs[k] (by simp [hk'])
  have : u = 5 := by
    rw [List.length_replicate, Nat.mod_eq_of_lt hk, List.getElem?_replicate_of_lt hk] at hu'
    exact (Option.some.inj hu').symm
  subst this
  rw [Array.getElem?_eq_getElem hk']
  unfold Cell.ok at hok
  rw [Try.underlying5] at hok
  cases hv : cs[k] <;> rw [hv] at hok <;> simp at hok
  case int k' n =>
    obtain ⟨rfl, hh'⟩ := hok
    have h2 : (0 : Int) ≤ n ∧ n ≤ 255 := by
      have e1 : IntKind.u8.min = 0 := by decide
      have e2 : IntKind.u8.max = 255 := by decide
      unfold IntKind.has at hh'
      rw [e1, e2] at hh'
      exact hh'
    exact ⟨n, rfl, h2.1, h2.2⟩

end Go.Proofs.Ytnahipfdnadccaa

namespace Go.Proofs.Ytnahipfdnadccaa
open Go.ChangeShapes Go.WideShapes Go.ChangeAt Go.RowKit

theorem cellsOf42 : Try.prog.cellsOf 42 = 5 := by kernel_rfl
theorem cellsOf5 : Try.prog.cellsOf 5 = 1 := by kernel_rfl
theorem cellsOf3 : Try.prog.cellsOf 3 = 1 := by kernel_rfl
theorem cellsOf2 : Try.prog.cellsOf 2 = 1 := by kernel_rfl

instance : Inhabited Stp := ⟨⟨0, 0, 0, 0, 0⟩⟩

theorem spot_none {W : World} {a : Addr} {v : Value} (h : W.cell? (a.add 0) = some v) : ∃ b o, a = ⟨b, o, none⟩ := by
  obtain ⟨b, o, s⟩ := a
  have : s = none := by simpa [Addr.add] using World.cell?_spot h
  subst this
  exact ⟨b, o, rfl⟩

set_option maxRecDepth 100000 in
theorem stp_each {H : Type} {enc : TypeId × Value → H} {W : World} {sb so i n base : Nat} {spare : Nat → Bool} {held : Bool} {cs' : List Value} {x : DataW H × List MemPlace}
    (h1 : W.cells? 0 ((⟨sb, so, none⟩ : Addr).add (i * 5)) 5 = some cs') (h2 : DataW.trod enc Try.prog W base spare held n 42 cs' = some x) :
    ∃ s : Stp, ∀ j u, s.cells[j]? = some u → W.cell? ⟨sb, so + i * 5 + j, none⟩ = some u := by
  obtain ⟨_, hlen, hcell⟩ := World.cells?_some h1
  obtain ⟨xs, k, _, _, _, hxl, hf⟩ := DataW.trod_struct Try.underlying42 h2
  have hxl' : xs.length = 5 := hxl
  match cs', hlen, xs, hxl' with
  | [v0, v1, v2, v3, v4], _, [y0, y1, y2, y3, y4], _ =>
    have f0 : DataW.trod enc Try.prog W base spare held k 5 [v0] = some y0 := hf 0 _ rfl
    have f1 : DataW.trod enc Try.prog W base spare held k 3 [v1] = some y1 := hf 1 _ rfl
    have f2 : DataW.trod enc Try.prog W base spare held k 3 [v2] = some y2 := hf 2 _ rfl
    have f3 : DataW.trod enc Try.prog W base spare held k 3 [v3] = some y3 := hf 3 _ rfl
    have f4 : DataW.trod enc Try.prog W base spare held k 2 [v4] = some y4 := hf 4 _ rfl
    obtain ⟨n0, e0, _, w0⟩ := DataW.trod_int Try.underlying5 f0
    obtain ⟨n1, e1, _⟩ := DataW.trod_int Try.underlying3 f1
    obtain ⟨n2, e2, _⟩ := DataW.trod_int Try.underlying3 f2
    obtain ⟨n3, e3, _⟩ := DataW.trod_int Try.underlying3 f3
    obtain ⟨n4, e4, _⟩ := DataW.trod_int Try.underlying2 f4
    simp at e0 e1 e2 e3 e4
    subst e0
    subst e1
    subst e2
    subst e3
    subst e4
    have h0 : 0 ≤ n0 := by
      have m1 : IntKind.u8.min = 0 := by decide
      simp [Lit.wf, m1] at w0
      exact w0.1
    refine ⟨⟨n0.toNat, n1, n2, n3, n4⟩, fun j u hu => ?_⟩
    have hj : j < 5 := (List.getElem?_eq_some_iff.1 hu).1
    have hc := hcell j hj
    rw [Addr.add_lit, Addr.add_lit] at hc
    rw [hc, ← hu]
    have e : ((n0.toNat : Nat) : Int) = n0 := by omega
    simp only [Stp.cells, e]

set_option maxRecDepth 100000 in
/-- a slice of steps, opened -/
theorem stp_open {H : Type} {enc : TypeId × Value → H} {W : World} {r : Reach} {base : Nat} {sv : Value} {d : DataW H} {ps : List MemPlace} (hval : Value.okWide Try.prog W r base 41 sv) (h : DataW.Trod enc Try.prog W 0 (fun _ => true) true 41 sv d ps) :
    ∃ steps : List Stp, StpV W sv steps := by
  obtain ⟨a0, len, cap, rfl⟩ := okWide_slice Try.underlying41 hval
  obtain ⟨fuel, hf⟩ := h
  rcases Deep.open_slice Try.underlying41 hf with ⟨hcs, _⟩ | ⟨a, len', cap', m, n, D, Pl, hcs, _, hl, hm, hmm, hx, hall⟩
  · simp [Value.cells] at hcs
    obtain ⟨rfl, rfl, rfl⟩ := hcs
    exact ⟨[], none, 0, rfl, fun j s hs => by simp at hs⟩
  · simp [Value.cells] at hcs
    obtain ⟨rfl, rfl, rfl⟩ := hcs
    simp only [if_true] at hmm
    subst hmm
    rw [cellsOf42] at hall
    rcases Nat.eq_zero_or_pos len with h0 | h0
    · subst h0
      exact ⟨[], some a, _, rfl, fun j s hs => by simp at hs⟩
    · obtain ⟨cs0, g1, _⟩ := hall 0 (by omega)
      obtain ⟨_, _, g2⟩ := World.cells?_some g1
      have g3 := g2 0 (by omega)
      obtain ⟨b, o, rfl⟩ : ∃ b o, a = ⟨b, o, none⟩ := by
        have hl5 : cs0.length = 5 := (World.cells?_some g1).2.1
        match cs0, hl5 with
        | v0 :: _, _ =>
          rw [Nat.zero_mul] at g3
          have : a.add 0 = a := by simp [Addr.add]
          rw [this] at g3
          exact spot_none g3
      obtain ⟨f, hfun⟩ := Deep.choose_lt (n := len) (p := fun i (s : Stp) => ∀ j u, s.cells[j]? = some u → W.cell? ⟨b, o + i * 5 + j, none⟩ = some u) (fun i hi => by
        obtain ⟨cs', h1, h2⟩ := hall i (by omega)
        exact stp_each h1 h2)
      refine ⟨(List.range len).map f, some ⟨b, o, none⟩, _, by rw [List.length_map, List.length_range], fun j s hs => ⟨b, o, rfl, ?_⟩⟩
      simp only [List.getElem?_map, Option.map_eq_some_iff] at hs
      obtain ⟨i, hi, rfl⟩ := hs
      have hij : i = j ∧ j < len := by
        rw [List.getElem?_eq_some_iff] at hi
        obtain ⟨h1, h2⟩ := hi
        simp at h1 h2
        exact ⟨h2.symm, h1⟩
      obtain ⟨rfl, hlt⟩ := hij
      exact hfun i hlt

set_option maxRecDepth 100000 in
/-- a slice of whole numbers, opened -/
theorem ints_open {H : Type} {enc : TypeId × Value → H} {W : World} {r : Reach} {base : Nat} {t e : TypeId} {k : IntKind} {sv : Value} {d : DataW H} {ps : List MemPlace} (ht : Try.prog.underlying t = some (.slice e)) (he : Try.prog.underlying e = some (.int k))
    (hc : Try.prog.cellsOf e = 1) (hval : Value.okWide Try.prog W r base t sv) (h : DataW.Trod enc Try.prog W 0 (fun _ => true) true t sv d ps) :
    ∃ xs : List Int, SlN W sv (xs.map (Value.int k)) ∧ ∀ n ∈ xs, (Lit.int k n).wf = true := by
  obtain ⟨a0, len, cap, rfl⟩ := okWide_slice ht hval
  obtain ⟨fuel, hf⟩ := h
  rcases open_ints ht he hc hf with ⟨hcs, _⟩ | ⟨a, len', cap', zs, hcs, _, hl, hm, hz, hx, hcell, hwz⟩
  · simp [Value.cells] at hcs
    obtain ⟨rfl, rfl, rfl⟩ := hcs
    exact ⟨[], ⟨none, 0, rfl, fun _ => rfl, fun j s hs => by simp at hs⟩, fun n hn => by simp at hn⟩
  · simp [Value.cells] at hcs
    obtain ⟨rfl, rfl, rfl⟩ := hcs
    simp only [if_true] at hz
    refine ⟨zs.take len, ⟨some a, _, by rw [List.length_map, List.length_take, Nat.min_eq_left (by omega)], nofun, fun i c hic => ?_⟩, fun n hn => hwz n (List.mem_of_mem_take hn)⟩
    simp only [List.getElem?_map, Option.map_eq_some_iff] at hic
    obtain ⟨x, hx', rfl⟩ := hic
    have hi : i < len := by
      have := (List.getElem?_eq_some_iff.1 hx').1
      simp at this
      omega
    have h0 := hcell 0 (by omega)
    obtain ⟨b, o, rfl⟩ := spot_none h0
    refine ⟨b, o, rfl, ?_⟩
    have h1 := hcell i (by omega)
    rw [Addr.add_lit] at h1
    rw [h1]
    rw [List.getElem?_take_of_lt hi] at hx'
    simp [List.getD, hx']

theorem wf_u16' {c : Int} (h : (Lit.int IntKind.u16 c).wf = true) : 0 ≤ c ∧ c ≤ 65535 := by
  have e1 : IntKind.u16.min = 0 := by decide
  have e2 : IntKind.u16.max = 65535 := by decide
  simp [Lit.wf, e1, e2] at h
  omega

theorem own1 : ownKnob Try.prog.godebug = none := by kernel_rfl
theorem laidOut1 : laidOutB Try.prog = true := by kernel_rfl

end Go.Proofs.Ytnahipfdnadccaa
