/- The arguments of the laws on maps, opened: a hash; steps. -/
import Derived.Test.YtpkndcmgialgcaaMVsn
import Derived.HandedShaped
import Derived.Deep.Slices
import Derived.ProofKit
namespace Go.Proofs.Ytpkndcmgialgcaa
open Go.ChangeShapes Go.WideShapes Go.ChangeAt Go.RowKit

theorem cellsOf41 : Try.prog.cellsOf 41 = 5 := by kernel_rfl
theorem cellsOf24 : Try.prog.cellsOf 24 = 3 := by kernel_rfl

instance : Inhabited Stp := ⟨⟨0, 0, 0, 0, 0⟩⟩

theorem spot_none {W : World} {a : Addr} {v : Value} (h : W.cell? (a.add 0) = some v) : ∃ b o, a = ⟨b, o, none⟩ := by
  obtain ⟨b, o, s⟩ := a
  have : s = none := by simpa [Addr.add] using World.cell?_spot h
  subst this
  exact ⟨b, o, rfl⟩

set_option maxRecDepth 100000 in
theorem stp_each {H : Type} {enc : TypeId × Value → H} {W : World} {sb so i n base : Nat} {spare : Nat → Bool} {held : Bool} {cs' : List Value} {x : DataW H × List MemPlace}
    (h1 : W.cells? 0 ((⟨sb, so, none⟩ : Addr).add (i * 5)) 5 = some cs') (h2 : DataW.trod enc Try.prog W base spare held n 41 cs' = some x) :
    ∃ s : Stp, (∀ j u, s.cells[j]? = some u → W.cell? ⟨sb, so + i * 5 + j, none⟩ = some u) ∧ Wf s.K ∧ Wf s.V := by
  obtain ⟨_, hlen, hcell⟩ := World.cells?_some h1
  obtain ⟨xs, k, _, _, _, hxl, hf⟩ := DataW.trod_struct Try.underlying41 h2
  have hxl' : xs.length = 5 := hxl
  match cs', hlen, xs, hxl' with
  | [v0, v1, v2, v3, v4], _, [y0, y1, y2, y3, y4], _ =>
    have f0 : DataW.trod enc Try.prog W base spare held k 5 [v0] = some y0 := hf 0 _ rfl
    have f1 : DataW.trod enc Try.prog W base spare held k 3 [v1] = some y1 := hf 1 _ rfl
    have f2 : DataW.trod enc Try.prog W base spare held k 2 [v2] = some y2 := hf 2 _ rfl
    have f3 : DataW.trod enc Try.prog W base spare held k 2 [v3] = some y3 := hf 3 _ rfl
    have f4 : DataW.trod enc Try.prog W base spare held k 3 [v4] = some y4 := hf 4 _ rfl
    obtain ⟨n0, e0, _, w0⟩ := DataW.trod_int Try.underlying5 f0
    obtain ⟨n1, e1, _⟩ := DataW.trod_int Try.underlying3 f1
    obtain ⟨n2, e2, _, w2⟩ := DataW.trod_int Try.underlying2 f2
    obtain ⟨n3, e3, _, w3⟩ := DataW.trod_int Try.underlying2 f3
    obtain ⟨n4, e4, _⟩ := DataW.trod_int Try.underlying3 f4
    simp at e0 e1 e2 e3 e4
    subst e0
    subst e1
    subst e2
    subst e3
    subst e4
    have h0 : 0 ≤ n0 := by
      have m1 : IntKind.u8.min = 0 := by decide
      simp [Lit.wf, m1] at w0
      exact w0.1
    refine ⟨⟨n0.toNat, n1, n2, n3, n4⟩, fun j u hu => ?_, w2, w3⟩
    have hj : j < 5 := (List.getElem?_eq_some_iff.1 hu).1
    have hc := hcell j hj
    rw [Addr.add_lit, Addr.add_lit] at hc
    rw [hc, ← hu]
    have e : ((n0.toNat : Nat) : Int) = n0 := by omega
    simp only [Stp.cells, e]

set_option maxRecDepth 100000 in
/-- a slice of steps, opened -/
theorem stp_open {H : Type} {enc : TypeId × Value → H} {W : World} {r : Reach} {base : Nat} {sv : Value} {d : DataW H} {ps : List MemPlace} (hval : Value.okWide Try.prog W r base 25 sv) (h : DataW.Trod enc Try.prog W 0 (fun _ => true) true 25 sv d ps) :
    ∃ steps : List Stp, StpV W sv steps ∧ ∀ s ∈ steps, Wf s.K ∧ Wf s.V := by
  obtain ⟨a0, len, cap, rfl⟩ := okWide_slice Try.underlying25 hval
  obtain ⟨fuel, hf⟩ := h
  rcases Deep.open_slice Try.underlying25 hf with ⟨hcs, _⟩ | ⟨a, len', cap', m, n, D, Pl, hcs, _, hl, hm, hmm, hx, hall⟩
  · simp [Value.cells] at hcs
    obtain ⟨rfl, rfl, rfl⟩ := hcs
    exact ⟨[], ⟨none, 0, rfl, fun j s hs => by simp at hs⟩, fun s hs => by simp at hs⟩
  · simp [Value.cells] at hcs
    obtain ⟨rfl, rfl, rfl⟩ := hcs
    simp only [if_true] at hmm
    subst hmm
    rw [cellsOf41] at hall
    rcases Nat.eq_zero_or_pos len with h0 | h0
    · subst h0
      exact ⟨[], ⟨some a, _, rfl, fun j s hs => by simp at hs⟩, fun s hs => by simp at hs⟩
    · obtain ⟨cs0, g1, _⟩ := hall 0 (by omega)
      obtain ⟨_, _, g2⟩ := World.cells?_some g1
      have g3 := g2 0 (by omega)
      obtain ⟨b, o, rfl⟩ : ∃ b o, a = ⟨b, o, none⟩ := by
        have hl5 : cs0.length = 5 := (World.cells?_some g1).2.1
        match cs0, hl5 with
        | v0 :: _, _ =>
          rw [Nat.zero_mul] at g3
          have : a.add 0 = a := by simp [Addr.add]
          rw [this] at g3
          exact spot_none g3
      obtain ⟨f, hfun⟩ := Deep.choose_lt (n := len) (p := fun i (s : Stp) => (∀ j u, s.cells[j]? = some u → W.cell? ⟨b, o + i * 5 + j, none⟩ = some u) ∧ Wf s.K ∧ Wf s.V) (fun i hi => by
        obtain ⟨cs', h1, h2⟩ := hall i (by omega)
        exact stp_each h1 h2)
      refine ⟨(List.range len).map f, ⟨some ⟨b, o, none⟩, _, by rw [List.length_map, List.length_range], fun j s hs => ⟨b, o, rfl, ?_⟩⟩, fun s hs => by
        obtain ⟨i, hi, rfl⟩ := List.mem_map.1 hs
        exact (hfun i (List.mem_range.1 hi)).2⟩
      simp only [List.getElem?_map, Option.map_eq_some_iff] at hs
      obtain ⟨i, hi, rfl⟩ := hs
      have hij : i = j ∧ j < len := by
        rw [List.getElem?_eq_some_iff] at hi
        obtain ⟨h1, h2⟩ := hi
        simp at h1 h2
        exact ⟨h2.symm, h1⟩
      obtain ⟨rfl, hlt⟩ := hij
      exact (hfun i hlt).1


theorem wf_u8 {c : Int} (h : (Lit.int IntKind.u8 c).wf = true) : 0 ≤ c ∧ c ≤ 255 := by
  have e1 : IntKind.u8.min = 0 := by decide
  have e2 : IntKind.u8.max = 255 := by decide
  simp [Lit.wf, e1, e2] at h
  omega
theorem wf_u32 {c : Int} (h : (Lit.int IntKind.u32 c).wf = true) : 0 ≤ c ∧ c ≤ 4294967295 := by
  have e1 : IntKind.u32.min = 0 := by decide
  have e2 : IntKind.u32.max = 4294967295 := by decide
  simp [Lit.wf, e1, e2] at h
  omega

set_option maxRecDepth 100000 in
/-- a hash, opened -/
theorem hash_open {H : Type} {enc : TypeId × Value → H} {W : World} {r : Reach} {base : Nat} {v : Value} {d : DataW H} {ps : List MemPlace} (hval : Value.okWide Try.prog W r base 24 v) (h : DataW.Trod enc Try.prog W 0 (fun _ => true) true 24 v d ps) :
    ∃ mo mu sh : Int, v = av mo mu sh ∧ 0 ≤ mo ∧ 0 ≤ sh := by
  obtain ⟨cs, rfl, hsz⟩ := okWide_struct Try.underlying24 hval
  rw [cellsOf24] at hsz
  obtain ⟨fuel, hf⟩ := h
  obtain ⟨xs, k, _, _, _, hxl, hff⟩ := DataW.trod_struct Try.underlying24 hf
  have hxl' : xs.length = 3 := hxl
  obtain ⟨l⟩ := cs
  have hl : l.length = 3 := hsz
  match l, hl, xs, hxl' with
  | [v0, v1, v2], _, [y0, y1, y2], _ =>
    have f0 : DataW.trod enc Try.prog W 0 (fun _ => true) true k 22 [v0] = some y0 := hff 0 _ rfl
    have f1 : DataW.trod enc Try.prog W 0 (fun _ => true) true k 22 [v1] = some y1 := hff 1 _ rfl
    have f2 : DataW.trod enc Try.prog W 0 (fun _ => true) true k 5 [v2] = some y2 := hff 2 _ rfl
    obtain ⟨n0, e0, _, w0⟩ := DataW.trod_int Try.underlying22 f0
    obtain ⟨n1, e1, _, w1⟩ := DataW.trod_int Try.underlying22 f1
    obtain ⟨n2, e2, _, w2⟩ := DataW.trod_int Try.underlying5 f2
    simp at e0 e1 e2
    subst e0
    subst e1
    subst e2
    exact ⟨n0, n1, n2, rfl, (wf_u32 w0).1, (wf_u8 w2).1⟩

theorem own1 : ownKnob Try.prog.godebug = none := by kernel_rfl
theorem laidOut1 : laidOutB Try.prog = true := by kernel_rfl

end Go.Proofs.Ytpkndcmgialgcaa
