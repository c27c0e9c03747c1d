/- Some moves, back to the first, then all: what they tell. -/
import Derived.Test.YtpkndcmgialgcaaWlkW
namespace Go.Proofs.Ytpkndcmgialgcaa
open Go.RowKit

def bsW (stop n : Nat) : List Bool := List.replicate stop false ++ true :: List.replicate n false
theorem bsW_len (stop n : Nat) : (bsW stop n).length = stop + 1 + n := by
  unfold bsW
  rw [List.length_append, List.length_cons, List.length_replicate, List.length_replicate]
  omega
theorem bsW_succ (stop n : Nat) : bsW stop (n + 1) = bsW stop n ++ [false] := by
  unfold bsW
  rw [List.replicate_succ', List.append_assoc]
  rfl
theorem bsW_take {stop n i : Nat} (hi : i ≤ stop) : (bsW stop n).take i = List.replicate i false := by
  unfold bsW
  rw [List.take_append_of_le_length (by rw [List.length_replicate]; exact hi), List.take_replicate, Nat.min_eq_left hi]
theorem bsW_takeB {stop n i : Nat} (hi : i ≤ n) : (bsW stop n).take (stop + 1 + i) = bsW stop i := by
  unfold bsW
  rw [List.take_append, List.take_of_length_le (by rw [List.length_replicate]; omega), List.length_replicate, show stop + 1 + i - stop = i + 1 by omega, List.take_succ_cons, List.take_replicate, Nat.min_eq_left hi]
theorem bsW_get {stop n i : Nat} (hi : i < stop) : (bsW stop n).getD i false = false := by
  unfold bsW
  rw [List.getD_eq_getElem?_getD, List.getElem?_append_left (by rw [List.length_replicate]; exact hi), List.getElem?_replicate]
  split <;> rfl
theorem bsW_getB {stop n i : Nat} (hi : i < n) : (bsW stop n).getD (stop + 1 + i) false = false := by
  unfold bsW
  rw [List.getD_eq_getElem?_getD, List.getElem?_append_right (by rw [List.length_replicate]; omega), List.length_replicate, show stop + 1 + i - stop = i + 1 by omega, List.getElem?_cons_succ, List.getElem?_replicate]
  split <;> rfl
theorem mvs_rep (es : List (Int × Int)) : ∀ i, mvs es (List.replicate i false) = es.drop i
  | 0 => rfl
  | i + 1 => by
    rw [List.replicate_succ', mvs_snoc, mvs_rep es i]
    show (es.drop i).tail = _
    rw [List.tail_drop]
theorem mvs_back (es : List (Int × Int)) (stop : Nat) : ∀ i, mvs es (bsW stop i) = es.drop i
  | 0 => by
    show mvs es (List.replicate stop false ++ [true]) = _
    rw [mvs_snoc]
    rfl
  | i + 1 => by
    rw [bsW_succ, mvs_snoc, mvs_back es stop i]
    show (es.drop i).tail = _
    rw [List.tail_drop]
theorem pair_drop {es : List (Int × Int)} {i : Nat} {e : Int × Int} (hi : es[i]? = some e) : mvPair false (es.drop i) = e ∧ mvOk false (es.drop i) = true := by
  obtain ⟨h1, h2⟩ := List.getElem?_eq_some_iff.1 hi
  rw [List.drop_eq_getElem_cons h1, h2]
  exact ⟨rfl, rfl⟩
section
variable {es : List (Int × Int)} {stop : Nat}
theorem bsW_front {i : Nat} {e : Int × Int} (_hs : stop ≤ es.length) (hi : i < stop) (he : es[i]? = some e) : (mvPairs es (bsW stop es.length) (stop + 1 + es.length))[i]? = some e ∧ (mvOks es (bsW stop es.length) (stop + 1 + es.length))[i]? = some true := by
  obtain ⟨h1, h2⟩ := pair_drop he
  unfold mvPairs mvOks
  rw [List.getElem?_map, List.getElem?_map, List.getElem?_range (by omega)]
  simp only [Option.map_some]
  rw [bsW_get hi, bsW_take (by omega), mvs_rep, h1, h2]
  exact ⟨rfl, rfl⟩
theorem bsW_rear {i : Nat} {e : Int × Int} (he : es[i]? = some e) : (mvPairs es (bsW stop es.length) (stop + 1 + es.length))[stop + 1 + i]? = some e ∧ (mvOks es (bsW stop es.length) (stop + 1 + es.length))[stop + 1 + i]? = some true ∧
    (mvDones es (bsW stop es.length) (stop + 1 + es.length))[stop + 1 + i]? = some (decide (i + 1 = es.length)) := by
  obtain ⟨h1, h2⟩ := pair_drop he
  have hl := (List.getElem?_eq_some_iff.1 he).1
  unfold mvPairs mvOks mvDones
  rw [List.getElem?_map, List.getElem?_map, List.getElem?_map, List.getElem?_range (by omega)]
  simp only [Option.map_some]
  rw [bsW_getB hl, bsW_takeB (by omega), mvs_back, h1, h2, show stop + 1 + i + 1 = stop + 1 + (i + 1) by omega, bsW_takeB (by omega), mvs_back]
  refine ⟨rfl, rfl, ?_⟩
  congr 1
  rw [Bool.eq_iff_iff, List.isEmpty_iff, List.drop_eq_nil_iff, decide_eq_true_iff]
  omega
end
end Go.Proofs.Ytpkndcmgialgcaa
