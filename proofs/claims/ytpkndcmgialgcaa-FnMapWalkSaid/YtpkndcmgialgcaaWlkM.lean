/- impl.MapWalk: an iterator moved. -/
import Derived.Test.YtpkndcmgialgcaaGetM
import Derived.Maps.AppendAt
namespace Go.Proofs.Ytpkndcmgialgcaa
open Go.RowKit Go.Maps

/-- what a move gives (true: First, false: Next), what is left behind it -/
def mvRest (es : List (Int × Int)) (b : Bool) (rest : List (Int × Int)) : List (Int × Int) := if b then es else rest.tail
def mvPair (b : Bool) (rest : List (Int × Int)) : Int × Int := if b then (0, 0) else rest.head?.getD (0, 0)
def mvOk (b : Bool) (rest : List (Int × Int)) : Bool := !b && !rest.isEmpty
/-- what is left behind the moves -/
def mvs (es : List (Int × Int)) (bs : List Bool) : List (Int × Int) := bs.foldl (fun r b => mvRest es b r) es
theorem mvs_snoc (es : List (Int × Int)) (bs : List Bool) (b : Bool) : mvs es (bs ++ [b]) = mvRest es b (mvs es bs) := by unfold mvs; rw [List.foldl_append]; rfl
theorem mvs_len (es : List (Int × Int)) (bs : List Bool) : (mvs es bs).length ≤ es.length := by
  have gen : ∀ (l : List Bool) (r : List (Int × Int)), r.length ≤ es.length → (l.foldl (fun r b => mvRest es b r) r).length ≤ es.length := by
    intro l
    induction l with
    | nil => intro r h; exact h
    | cons b l ih =>
      intro r h
      refine ih _ ?_
      show (mvRest es b r).length ≤ es.length
      unfold mvRest
      split
      · exact Nat.le_refl _
      · rw [List.length_tail]; omega
  exact gen bs es (Nat.le_refl _)
/-- v is a slice that reads these bools -/
def BoolsV (w : World) (v : Value) (bs : List Bool) : Prop :=
  ∃ (a : Option Addr) (cap : Nat), v = .slice a bs.length cap ∧ ∀ i x, bs[i]? = some x → ∃ g o, a = some ⟨g, o, none⟩ ∧ w.cell? ⟨g, o + i, none⟩ = some (.bool x)
theorem BoolsV.below {w w' : World} {v : Value} {xs : List Bool} (h : BoolsV w v xs) (b : Below w.heap.size w w') : BoolsV w' v xs := by
  obtain ⟨a, cap, h1, h2⟩ := h
  refine ⟨a, cap, h1, fun i e he => ?_⟩
  obtain ⟨g, o, h3, h4⟩ := h2 i e he
  exact ⟨g, o, h3, (b.cell (World.block_lt_of_cell? w _ h4)).trans h4⟩
/-- the pairs, what Next said, whether it was done: behind j moves -/
def mvPairs (es : List (Int × Int)) (bs : List Bool) (j : Nat) : List (Int × Int) := (List.range j).map fun i => mvPair (bs.getD i false) (mvs es (bs.take i))
def mvOks (es : List (Int × Int)) (bs : List Bool) (j : Nat) : List Bool := (List.range j).map fun i => mvOk (bs.getD i false) (mvs es (bs.take i))
def mvDones (es : List (Int × Int)) (bs : List Bool) (j : Nat) : List Bool := (List.range j).map fun i => (mvs es (bs.take (i + 1))).isEmpty
theorem mvPairs_succ (es : List (Int × Int)) (bs : List Bool) (j : Nat) : mvPairs es bs (j + 1) = mvPairs es bs j ++ [mvPair (bs.getD j false) (mvs es (bs.take j))] := by unfold mvPairs; rw [List.range_succ, List.map_append]; rfl
theorem mvOks_succ (es : List (Int × Int)) (bs : List Bool) (j : Nat) : mvOks es bs (j + 1) = mvOks es bs j ++ [mvOk (bs.getD j false) (mvs es (bs.take j))] := by unfold mvOks; rw [List.range_succ, List.map_append]; rfl
theorem mvDones_succ (es : List (Int × Int)) (bs : List Bool) (j : Nat) : mvDones es bs (j + 1) = mvDones es bs j ++ [(mvs es (bs.take (j + 1))).isEmpty] := by unfold mvDones; rw [List.range_succ, List.map_append]; rfl
end Go.Proofs.Ytpkndcmgialgcaa
