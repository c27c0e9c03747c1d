/- The arguments of the laws on sorted maps, opened: slices of whole numbers. -/
import Derived.Test.YtefigjdebakccaaCln
import Derived.HandedShaped
import Derived.Deep.Slices
import Derived.ProofKit
namespace Go.Proofs.Ytefigjdebakccaa
open Go.ChangeShapes Go.WideShapes Go.ChangeAt Go.RowKit

theorem spot_none {W : World} {a : Addr} {v : Value} (h : W.cell? (a.add 0) = some v) : ∃ b o, a = ⟨b, o, none⟩ := by
  obtain ⟨b, o, s⟩ := a
  have : s = none := by simpa [Addr.add] using World.cell?_spot h
  subst this
  exact ⟨b, o, rfl⟩
/-- v is a slice that reads these whole numbers of a kind -/
def RdK (k : IntKind) (w : World) (v : Value) (xs : List Int) : Prop :=
  ∃ (a : Option Addr) (cap : Nat), v = .slice a xs.length cap ∧ (a = none → cap = 0) ∧ ∀ (i : Nat) (x : Int), xs[i]? = some x → ∃ g o, a = some ⟨g, o, none⟩ ∧ w.cell? ⟨g, o + i, none⟩ = some (.int k x)
theorem RdK.below {k : IntKind} {w w' : World} {v : Value} {xs : List Int} (h : RdK k w v xs) (b : Below w.heap.size w w') : RdK k w' v xs := by
  obtain ⟨a, cap, h1, h0, h2⟩ := h
  refine ⟨a, cap, h1, h0, fun i e he => ?_⟩
  obtain ⟨g, o, h3, h4⟩ := h2 i e he
  exact ⟨g, o, h3, bcell b h4⟩
theorem RdK.rdi {w : World} {v : Value} {xs : List Int} (h : RdK .i64 w v xs) : RdI w v xs := by
  obtain ⟨a, cap, h1, -, h2⟩ := h
  exact ⟨a, cap, h1, h2⟩
theorem RdK.rdn {w : World} {v : Value} {xs : List Int} (h : RdK .i64 w v xs) : RdN w v xs := h

set_option maxRecDepth 100000 in
/-- a slice of whole numbers, opened -/
theorem ints_open {H : Type} {enc : TypeId × Value → H} {W : World} {r : Reach} {base : Nat} {t e : TypeId} {k : IntKind} {sv : Value} {d : DataW H} {ps : List MemPlace} (ht : Try.prog.underlying t = some (.slice e)) (he : Try.prog.underlying e = some (.int k))
    (hc : Try.prog.cellsOf e = 1) (hval : Value.okWide Try.prog W r base t sv) (h : DataW.Trod enc Try.prog W 0 (fun _ => true) true t sv d ps) :
    ∃ xs : List Int, RdK k W sv xs ∧ ∀ n ∈ xs, (Lit.int k n).wf = true := by
  obtain ⟨a0, len, cap, rfl⟩ := okWide_slice ht hval
  obtain ⟨fuel, hf⟩ := h
  rcases open_ints ht he hc hf with ⟨hcs, _⟩ | ⟨a, len', cap', zs, hcs, _, hl, hm, hz, hx, hcell, hwz⟩
  · simp [Value.cells] at hcs
    obtain ⟨rfl, rfl, rfl⟩ := hcs
    exact ⟨[], ⟨none, 0, rfl, fun _ => rfl, fun j s hs => by simp at hs⟩, fun n hn => by simp at hn⟩
  · simp [Value.cells] at hcs
    obtain ⟨rfl, rfl, rfl⟩ := hcs
    simp only [if_true] at hz
    refine ⟨zs.take len, ⟨some a, _, by rw [List.length_take, Nat.min_eq_left (by omega)], nofun, fun i x hx' => ?_⟩, fun n hn => hwz n (List.mem_of_mem_take hn)⟩
    have hi : i < len := by
      have := (List.getElem?_eq_some_iff.1 hx').1
      simp at this
      omega
    have h0 := hcell 0 (by omega)
    obtain ⟨b, o, rfl⟩ := spot_none h0
    refine ⟨b, o, rfl, ?_⟩
    have h1 := hcell i (by omega)
    rw [Addr.add_lit] at h1
    rw [h1]
    rw [List.getElem?_take_of_lt hi] at hx'
    simp [List.getD, hx']
theorem wf_u8 {c : Int} (h : (Lit.int IntKind.u8 c).wf = true) : 0 ≤ c ∧ c ≤ 255 := by
  have e1 : IntKind.u8.min = 0 := by decide
  have e2 : IntKind.u8.max = 255 := by decide
  simp [Lit.wf, e1, e2] at h
  omega
theorem wf_u16 {c : Int} (h : (Lit.int IntKind.u16 c).wf = true) : 0 ≤ c ∧ c ≤ 65535 := by
  have e1 : IntKind.u16.min = 0 := by decide
  have e2 : IntKind.u16.max = 65535 := by decide
  simp [Lit.wf, e1, e2] at h
  omega
theorem own1 : ownKnob Try.prog.godebug = none := by kernel_rfl
theorem laidOut1 : laidOutB Try.prog = true := by kernel_rfl
end Go.Proofs.Ytefigjdebakccaa
