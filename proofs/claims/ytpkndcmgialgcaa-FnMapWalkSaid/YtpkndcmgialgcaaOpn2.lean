/- The arguments of the laws on maps, opened: whole numbers. -/
import Derived.Test.YtpkndcmgialgcaaOpn
namespace Go.Proofs.Ytpkndcmgialgcaa
open Go.ChangeShapes Go.WideShapes Go.ChangeAt Go.RowKit

theorem wf_u16 {c : Int} (h : (Lit.int IntKind.u16 c).wf = true) : 0 ≤ c ∧ c ≤ 65535 := by
  have e1 : IntKind.u16.min = 0 := by decide
  have e2 : IntKind.u16.max = 65535 := by decide
  simp [Lit.wf, e1, e2] at h
  omega

/-- v is a slice that reads these whole numbers -/
def IntsV (w : World) (v : Value) (xs : List Int) : Prop :=
  ∃ (a : Option Addr) (cap : Nat), v = .slice a xs.length cap ∧ ∀ i x, xs[i]? = some x → ∃ g o, a = some ⟨g, o, none⟩ ∧ w.cell? ⟨g, o + i, none⟩ = some (.int .i64 x)
theorem IntsV.below {w w' : World} {v : Value} {xs : List Int} (h : IntsV w v xs) (b : Below w.heap.size w w') : IntsV w' v xs := by
  obtain ⟨a, cap, h1, h2⟩ := h
  refine ⟨a, cap, h1, fun i e he => ?_⟩
  obtain ⟨g, o, h3, h4⟩ := h2 i e he
  exact ⟨g, o, h3, (b.cell (World.block_lt_of_cell? w _ h4)).trans h4⟩

set_option maxRecDepth 100000 in
/-- a slice of whole numbers, opened -/
theorem ints_open {H : Type} {enc : TypeId × Value → H} {W : World} {r : Reach} {base : Nat} {t e : TypeId} {sv : Value} {d : DataW H} {ps : List MemPlace} (ht : Try.prog.underlying t = some (.slice e)) (he : Try.prog.underlying e = some (.int .i64))
    (hc : Try.prog.cellsOf e = 1) (hval : Value.okWide Try.prog W r base t sv) (h : DataW.Trod enc Try.prog W 0 (fun _ => true) true t sv d ps) :
    ∃ xs : List Int, IntsV W sv xs ∧ ∀ n ∈ xs, Wf n := by
  obtain ⟨a0, len, cap, rfl⟩ := okWide_slice ht hval
  obtain ⟨fuel, hf⟩ := h
  rcases open_ints ht he hc hf with ⟨hcs, _⟩ | ⟨a, len', cap', zs, hcs, _, hl, hm, hz, hx, hcell, hwz⟩
  · simp [Value.cells] at hcs
    obtain ⟨rfl, rfl, rfl⟩ := hcs
    exact ⟨[], ⟨none, 0, rfl, fun j s hs => by simp at hs⟩, fun n hn => by simp at hn⟩
  · simp [Value.cells] at hcs
    obtain ⟨rfl, rfl, rfl⟩ := hcs
    simp only [if_true] at hz
    refine ⟨zs.take len, ⟨some a, _, by rw [List.length_take, Nat.min_eq_left (by omega)], fun i x hx' => ?_⟩, fun n hn => hwz n (List.mem_of_mem_take hn)⟩
    have hi : i < len := by
      have := (List.getElem?_eq_some_iff.1 hx').1
      simp at this
      omega
    have h0 := hcell 0 (by omega)
    obtain ⟨b, o, rfl⟩ := spot_none h0
    refine ⟨b, o, rfl, ?_⟩
    have h1 := hcell i (by omega)
    rw [Addr.add_lit] at h1
    rw [h1]
    rw [List.getElem?_take_of_lt hi] at hx'
    simp [List.getD, hx']
end Go.Proofs.Ytpkndcmgialgcaa
