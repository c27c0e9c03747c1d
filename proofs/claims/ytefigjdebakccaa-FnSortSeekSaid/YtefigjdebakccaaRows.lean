/-
  No cell of these rows narrows 'for every input' (looked for: loops, veiled, ifaces, maps, wideKeys, modest, calm, conditions, laid).
  DERIVED. THE GIVEN ROWS OF THIS SEAT. 12 by the template 'for every input the law returns true; each argument reads behind the call as it read before'; 0 by the template 'total and deterministic' (their statements: YtefigjdebakccaaTotals.lean).
  GIVEN WITH THE SEED: the statements are not yours to turn. If you find one false, say at which input.
  Laid BY PROGRAM, IN A SANDBOX (cutbox-rows.mjs): the forced cells as the released guide's own fill.sh prints them over the translation bc9068e0a102d1f6… (all of the seat's roots in one cut). By AI agents, Wed Nov 11 2026. No macro, syntax, notation, axiom, sorry.
-/
import Derived.Test.YtefigjdebakccaaChecked
import GoSem.Claim
import GoSem.ClaimJoined
import GoSem.ClaimMapViews
import Derived.JoinedTies
import Derived.KernelRfl
namespace Go.Proofs.Ytefigjdebakccaa
/- THE CELL 'sum', in the pinned program and in every row, IS THE sha256 OF THE DUMP (.gsa) THAT YtefigjdebakccaaProg.lean LOADS. Nothing in Lean hashes anything: it is a label: what it is worth is what the hold of that sum in a sandbox is worth. -/
noncomputable def Try.pinned : Pinned := { name := "ytefigjdebakccaa", sum := "bc9068e0a102d1f675f81eed668401cefe8f9d0d4aa4987d9d87b97187bd3c06", checked := Try.checked }
namespace Rows
def none {H : Type} : Left H := { results := [], args := [] }

/-- 'laws.FnSortTurned': WHATEVER THE INPUT: true; the input reads as it did. -/
def fnSortTurnedSpec : ChangeSpec := { name := "fnSortTurned", fn := fun _ => fun
  | [d] => { results := [.lit (.bool true)], args := [d] }
  | _ => none }
def fnSortTurnedRow : OpenClaim := { program := "ytefigjdebakccaa", sum := "bc9068e0a102d1f675f81eed668401cefe8f9d0d4aa4987d9d87b97187bd3c06", func := "pub-frond/laws.FnSortTurned", spec := "fnSortTurned", unfollowed := true, recurses := true, apart := false }
def FnSortTurnedSaid : Prop := fnSortTurnedRow.holds Try.pinned (OpenSpec.ofChange fnSortTurnedSpec)

/-- ITS FALSE NEIGHBOUR: 'it returns false'. Refute it at one input. -/
def fnSortTurnedWrong : ChangeSpec := { name := "fnSortTurned", fn := fun _ => fun
  | [d] => { results := [.lit (.bool false)], args := [d] }
  | _ => none }
def FnSortTurnedWrongFalsely : Prop := fnSortTurnedRow.holds Try.pinned (OpenSpec.ofChange fnSortTurnedWrong)

/-- 'laws.FnSortHalves': WHATEVER THE INPUT: true; the input reads as it did. -/
def fnSortHalvesSpec : ChangeSpec := { name := "fnSortHalves", fn := fun _ => fun
  | [d1, d2, d3] => { results := [.lit (.bool true)], args := [d1, d2, d3] }
  | _ => none }
def fnSortHalvesRow : OpenClaim := { program := "ytefigjdebakccaa", sum := "bc9068e0a102d1f675f81eed668401cefe8f9d0d4aa4987d9d87b97187bd3c06", func := "pub-frond/laws.FnSortHalves", spec := "fnSortHalves", unfollowed := true, recurses := true, apart := false }
def FnSortHalvesSaid : Prop := fnSortHalvesRow.holds Try.pinned (OpenSpec.ofChange fnSortHalvesSpec)

/-- ITS FALSE NEIGHBOUR: 'it returns false'. Refute it at one input. -/
def fnSortHalvesWrong : ChangeSpec := { name := "fnSortHalves", fn := fun _ => fun
  | [d1, d2, d3] => { results := [.lit (.bool false)], args := [d1, d2, d3] }
  | _ => none }
def FnSortHalvesWrongFalsely : Prop := fnSortHalvesRow.holds Try.pinned (OpenSpec.ofChange fnSortHalvesWrong)

/-- 'laws.FnSortMixed': WHATEVER THE INPUT: true; the input reads as it did. -/
def fnSortMixedSpec : ChangeSpec := { name := "fnSortMixed", fn := fun _ => fun
  | [d1, d2, d3] => { results := [.lit (.bool true)], args := [d1, d2, d3] }
  | _ => none }
def fnSortMixedRow : OpenClaim := { program := "ytefigjdebakccaa", sum := "bc9068e0a102d1f675f81eed668401cefe8f9d0d4aa4987d9d87b97187bd3c06", func := "pub-frond/laws.FnSortMixed", spec := "fnSortMixed", unfollowed := true, recurses := true, apart := false }
def FnSortMixedSaid : Prop := fnSortMixedRow.holds Try.pinned (OpenSpec.ofChange fnSortMixedSpec)

/-- ITS FALSE NEIGHBOUR: 'it returns false'. Refute it at one input. -/
def fnSortMixedWrong : ChangeSpec := { name := "fnSortMixed", fn := fun _ => fun
  | [d1, d2, d3] => { results := [.lit (.bool false)], args := [d1, d2, d3] }
  | _ => none }
def FnSortMixedWrongFalsely : Prop := fnSortMixedRow.holds Try.pinned (OpenSpec.ofChange fnSortMixedWrong)

/-- 'laws.FnSortSeek': WHATEVER THE INPUT: true; the input reads as it did. -/
def fnSortSeekSpec : ChangeSpec := { name := "fnSortSeek", fn := fun _ => fun
  | [d1, d2, d3] => { results := [.lit (.bool true)], args := [d1, d2, d3] }
  | _ => none }
def fnSortSeekRow : OpenClaim := { program := "ytefigjdebakccaa", sum := "bc9068e0a102d1f675f81eed668401cefe8f9d0d4aa4987d9d87b97187bd3c06", func := "pub-frond/laws.FnSortSeek", spec := "fnSortSeek", unfollowed := true, recurses := true, apart := false }
def FnSortSeekSaid : Prop := fnSortSeekRow.holds Try.pinned (OpenSpec.ofChange fnSortSeekSpec)

/-- ITS FALSE NEIGHBOUR: 'it returns false'. Refute it at one input. -/
def fnSortSeekWrong : ChangeSpec := { name := "fnSortSeek", fn := fun _ => fun
  | [d1, d2, d3] => { results := [.lit (.bool false)], args := [d1, d2, d3] }
  | _ => none }
def FnSortSeekWrongFalsely : Prop := fnSortSeekRow.holds Try.pinned (OpenSpec.ofChange fnSortSeekWrong)

/-- 'laws.FnSortStays': WHATEVER THE INPUT: true; the input reads as it did. -/
def fnSortStaysSpec : ChangeSpec := { name := "fnSortStays", fn := fun _ => fun
  | [d1, d2] => { results := [.lit (.bool true)], args := [d1, d2] }
  | _ => none }
def fnSortStaysRow : OpenClaim := { program := "ytefigjdebakccaa", sum := "bc9068e0a102d1f675f81eed668401cefe8f9d0d4aa4987d9d87b97187bd3c06", func := "pub-frond/laws.FnSortStays", spec := "fnSortStays", unfollowed := true, recurses := true, apart := false }
def FnSortStaysSaid : Prop := fnSortStaysRow.holds Try.pinned (OpenSpec.ofChange fnSortStaysSpec)

/-- ITS FALSE NEIGHBOUR: 'it returns false'. Refute it at one input. -/
def fnSortStaysWrong : ChangeSpec := { name := "fnSortStays", fn := fun _ => fun
  | [d1, d2] => { results := [.lit (.bool false)], args := [d1, d2] }
  | _ => none }
def FnSortStaysWrongFalsely : Prop := fnSortStaysRow.holds Try.pinned (OpenSpec.ofChange fnSortStaysWrong)

/-- 'laws.FnSortMaps': WHATEVER THE INPUT: true; the input reads as it did. -/
def fnSortMapsSpec : ChangeSpec := { name := "fnSortMaps", fn := fun _ => fun
  | [d1, d2] => { results := [.lit (.bool true)], args := [d1, d2] }
  | _ => none }
def fnSortMapsRow : OpenClaim := { program := "ytefigjdebakccaa", sum := "bc9068e0a102d1f675f81eed668401cefe8f9d0d4aa4987d9d87b97187bd3c06", func := "pub-frond/laws.FnSortMaps", spec := "fnSortMaps", unfollowed := true, recurses := true, apart := false }
def FnSortMapsSaid : Prop := fnSortMapsRow.holds Try.pinned (OpenSpec.ofChange fnSortMapsSpec)

/-- ITS FALSE NEIGHBOUR: 'it returns false'. Refute it at one input. -/
def fnSortMapsWrong : ChangeSpec := { name := "fnSortMaps", fn := fun _ => fun
  | [d1, d2] => { results := [.lit (.bool false)], args := [d1, d2] }
  | _ => none }
def FnSortMapsWrongFalsely : Prop := fnSortMapsRow.holds Try.pinned (OpenSpec.ofChange fnSortMapsWrong)

/-- 'laws.FnSortWalk': WHATEVER THE INPUT: true; the input reads as it did. -/
def fnSortWalkSpec : ChangeSpec := { name := "fnSortWalk", fn := fun _ => fun
  | [d1, d2, d3] => { results := [.lit (.bool true)], args := [d1, d2, d3] }
  | _ => none }
def fnSortWalkRow : OpenClaim := { program := "ytefigjdebakccaa", sum := "bc9068e0a102d1f675f81eed668401cefe8f9d0d4aa4987d9d87b97187bd3c06", func := "pub-frond/laws.FnSortWalk", spec := "fnSortWalk", unfollowed := true, recurses := true, apart := false }
def FnSortWalkSaid : Prop := fnSortWalkRow.holds Try.pinned (OpenSpec.ofChange fnSortWalkSpec)

/-- ITS FALSE NEIGHBOUR: 'it returns false'. Refute it at one input. -/
def fnSortWalkWrong : ChangeSpec := { name := "fnSortWalk", fn := fun _ => fun
  | [d1, d2, d3] => { results := [.lit (.bool false)], args := [d1, d2, d3] }
  | _ => none }
def FnSortWalkWrongFalsely : Prop := fnSortWalkRow.holds Try.pinned (OpenSpec.ofChange fnSortWalkWrong)

/-- 'laws.FnSortBack': WHATEVER THE INPUT: true; the input reads as it did. -/
def fnSortBackSpec : ChangeSpec := { name := "fnSortBack", fn := fun _ => fun
  | [d1, d2] => { results := [.lit (.bool true)], args := [d1, d2] }
  | _ => none }
def fnSortBackRow : OpenClaim := { program := "ytefigjdebakccaa", sum := "bc9068e0a102d1f675f81eed668401cefe8f9d0d4aa4987d9d87b97187bd3c06", func := "pub-frond/laws.FnSortBack", spec := "fnSortBack", unfollowed := true, recurses := true, apart := false }
def FnSortBackSaid : Prop := fnSortBackRow.holds Try.pinned (OpenSpec.ofChange fnSortBackSpec)

/-- ITS FALSE NEIGHBOUR: 'it returns false'. Refute it at one input. -/
def fnSortBackWrong : ChangeSpec := { name := "fnSortBack", fn := fun _ => fun
  | [d1, d2] => { results := [.lit (.bool false)], args := [d1, d2] }
  | _ => none }
def FnSortBackWrongFalsely : Prop := fnSortBackRow.holds Try.pinned (OpenSpec.ofChange fnSortBackWrong)

/-- 'laws.FnSortOf': WHATEVER THE INPUT: true; the input reads as it did. -/
def fnSortOfSpec : ChangeSpec := { name := "fnSortOf", fn := fun _ => fun
  | [d1, d2] => { results := [.lit (.bool true)], args := [d1, d2] }
  | _ => none }
def fnSortOfRow : OpenClaim := { program := "ytefigjdebakccaa", sum := "bc9068e0a102d1f675f81eed668401cefe8f9d0d4aa4987d9d87b97187bd3c06", func := "pub-frond/laws.FnSortOf", spec := "fnSortOf", unfollowed := true, recurses := true, apart := false }
def FnSortOfSaid : Prop := fnSortOfRow.holds Try.pinned (OpenSpec.ofChange fnSortOfSpec)

/-- ITS FALSE NEIGHBOUR: 'it returns false'. Refute it at one input. -/
def fnSortOfWrong : ChangeSpec := { name := "fnSortOf", fn := fun _ => fun
  | [d1, d2] => { results := [.lit (.bool false)], args := [d1, d2] }
  | _ => none }
def FnSortOfWrongFalsely : Prop := fnSortOfRow.holds Try.pinned (OpenSpec.ofChange fnSortOfWrong)

/-- 'laws.FnSortAbsent': WHATEVER THE INPUT: true; the input reads as it did. -/
def fnSortAbsentSpec : ChangeSpec := { name := "fnSortAbsent", fn := fun _ => fun
  | [d1, d2, d3, d4] => { results := [.lit (.bool true)], args := [d1, d2, d3, d4] }
  | _ => none }
def fnSortAbsentRow : OpenClaim := { program := "ytefigjdebakccaa", sum := "bc9068e0a102d1f675f81eed668401cefe8f9d0d4aa4987d9d87b97187bd3c06", func := "pub-frond/laws.FnSortAbsent", spec := "fnSortAbsent", unfollowed := true, recurses := true, apart := false }
def FnSortAbsentSaid : Prop := fnSortAbsentRow.holds Try.pinned (OpenSpec.ofChange fnSortAbsentSpec)

/-- ITS FALSE NEIGHBOUR: 'it returns false'. Refute it at one input. -/
def fnSortAbsentWrong : ChangeSpec := { name := "fnSortAbsent", fn := fun _ => fun
  | [d1, d2, d3, d4] => { results := [.lit (.bool false)], args := [d1, d2, d3, d4] }
  | _ => none }
def FnSortAbsentWrongFalsely : Prop := fnSortAbsentRow.holds Try.pinned (OpenSpec.ofChange fnSortAbsentWrong)

/-- 'laws.FnSortEmptied': WHATEVER THE INPUT: true; the input reads as it did. -/
def fnSortEmptiedSpec : ChangeSpec := { name := "fnSortEmptied", fn := fun _ => fun
  | [d1, d2, d3] => { results := [.lit (.bool true)], args := [d1, d2, d3] }
  | _ => none }
def fnSortEmptiedRow : OpenClaim := { program := "ytefigjdebakccaa", sum := "bc9068e0a102d1f675f81eed668401cefe8f9d0d4aa4987d9d87b97187bd3c06", func := "pub-frond/laws.FnSortEmptied", spec := "fnSortEmptied", unfollowed := true, recurses := true, apart := false }
def FnSortEmptiedSaid : Prop := fnSortEmptiedRow.holds Try.pinned (OpenSpec.ofChange fnSortEmptiedSpec)

/-- ITS FALSE NEIGHBOUR: 'it returns false'. Refute it at one input. -/
def fnSortEmptiedWrong : ChangeSpec := { name := "fnSortEmptied", fn := fun _ => fun
  | [d1, d2, d3] => { results := [.lit (.bool false)], args := [d1, d2, d3] }
  | _ => none }
def FnSortEmptiedWrongFalsely : Prop := fnSortEmptiedRow.holds Try.pinned (OpenSpec.ofChange fnSortEmptiedWrong)

/-- 'laws.FnSortBuild': WHATEVER THE INPUT: true; the input reads as it did. -/
def fnSortBuildSpec : ChangeSpec := { name := "fnSortBuild", fn := fun _ => fun
  | [d1, d2] => { results := [.lit (.bool true)], args := [d1, d2] }
  | _ => none }
def fnSortBuildRow : OpenClaim := { program := "ytefigjdebakccaa", sum := "bc9068e0a102d1f675f81eed668401cefe8f9d0d4aa4987d9d87b97187bd3c06", func := "pub-frond/laws.FnSortBuild", spec := "fnSortBuild", unfollowed := true, recurses := true, apart := false }
def FnSortBuildSaid : Prop := fnSortBuildRow.holds Try.pinned (OpenSpec.ofChange fnSortBuildSpec)

/-- ITS FALSE NEIGHBOUR: 'it returns false'. Refute it at one input. -/
def fnSortBuildWrong : ChangeSpec := { name := "fnSortBuild", fn := fun _ => fun
  | [d1, d2] => { results := [.lit (.bool false)], args := [d1, d2] }
  | _ => none }
def FnSortBuildWrongFalsely : Prop := fnSortBuildRow.holds Try.pinned (OpenSpec.ofChange fnSortBuildWrong)

/- THE SECOND FORM. 'bulk': how many values and letters a reading holds, each counted each time it is reached (what is shared counts as often as it is met; a slice's spare places count too). A statement '..UptoSaid' is the law's where the arguments, and the package variables that the reading takes, are together of bulk at most 1048576: NARROWER than '..Said'. Prove '..Said' where nothing that the law and all that it calls make is longer than what came in: it says more and counts as full. Else prove '..UptoSaid'. A law counts once. -/
mutual
def uptoBulk {H : Type} : DataW H → Nat
  | .lit (.string bytes) => bytes.length + 1
  | .lit _ => 1
  | .nil => 1
  | .ptr d => uptoBulk d + 1
  | .slice elems spare => uptoBulkAll elems + uptoBulkAll spare + 1
  | .agg parts => uptoBulkAll parts + 1
  | .iface _ d => uptoBulk d + 1
  | .map entries => uptoBulkEntries entries + 1
  | .held _ => 1
def uptoBulkAll {H : Type} : List (DataW H) → Nat
  | [] => 0
  | d :: r => uptoBulk d + uptoBulkAll r
def uptoBulkEntries {H : Type} : List (Lit × DataW H) → Nat
  | [] => 0
  | x :: r => uptoBulkEntry x + uptoBulkEntries r
def uptoBulkEntry {H : Type} : Lit × DataW H → Nat
  | (.string bytes, d) => bytes.length + uptoBulk d + 1
  | (_, d) => uptoBulk d + 1
 end
def uptoSmall : (H : Type) → List (DataW H) → Bool := fun _ ds => decide (uptoBulkAll ds ≤ 1048576)
def OpenSpec.upto (s : _root_.Go.ChangeSpec) : _root_.Go.OpenSpec := { _root_.Go.OpenSpec.ofChange s with cond := some uptoSmall }

/-- 'laws.FnSortTurned', WHERE WHAT IT READS IS OF BULK AT MOST 1048576: true; the input reads as it did. -/
def fnSortTurnedUptoRow : OpenClaim := { program := "ytefigjdebakccaa", sum := "bc9068e0a102d1f675f81eed668401cefe8f9d0d4aa4987d9d87b97187bd3c06", func := "pub-frond/laws.FnSortTurned", spec := "fnSortTurned", unfollowed := true, recurses := true, apart := false, narrowed := true }
def FnSortTurnedUptoSaid : Prop := fnSortTurnedUptoRow.holds Try.pinned (OpenSpec.upto fnSortTurnedSpec)

/-- 'laws.FnSortHalves', WHERE WHAT IT READS IS OF BULK AT MOST 1048576: true; the input reads as it did. -/
def fnSortHalvesUptoRow : OpenClaim := { program := "ytefigjdebakccaa", sum := "bc9068e0a102d1f675f81eed668401cefe8f9d0d4aa4987d9d87b97187bd3c06", func := "pub-frond/laws.FnSortHalves", spec := "fnSortHalves", unfollowed := true, recurses := true, apart := false, narrowed := true }
def FnSortHalvesUptoSaid : Prop := fnSortHalvesUptoRow.holds Try.pinned (OpenSpec.upto fnSortHalvesSpec)

/-- 'laws.FnSortMixed', WHERE WHAT IT READS IS OF BULK AT MOST 1048576: true; the input reads as it did. -/
def fnSortMixedUptoRow : OpenClaim := { program := "ytefigjdebakccaa", sum := "bc9068e0a102d1f675f81eed668401cefe8f9d0d4aa4987d9d87b97187bd3c06", func := "pub-frond/laws.FnSortMixed", spec := "fnSortMixed", unfollowed := true, recurses := true, apart := false, narrowed := true }
def FnSortMixedUptoSaid : Prop := fnSortMixedUptoRow.holds Try.pinned (OpenSpec.upto fnSortMixedSpec)

/-- 'laws.FnSortSeek', WHERE WHAT IT READS IS OF BULK AT MOST 1048576: true; the input reads as it did. -/
def fnSortSeekUptoRow : OpenClaim := { program := "ytefigjdebakccaa", sum := "bc9068e0a102d1f675f81eed668401cefe8f9d0d4aa4987d9d87b97187bd3c06", func := "pub-frond/laws.FnSortSeek", spec := "fnSortSeek", unfollowed := true, recurses := true, apart := false, narrowed := true }
def FnSortSeekUptoSaid : Prop := fnSortSeekUptoRow.holds Try.pinned (OpenSpec.upto fnSortSeekSpec)

/-- 'laws.FnSortStays', WHERE WHAT IT READS IS OF BULK AT MOST 1048576: true; the input reads as it did. -/
def fnSortStaysUptoRow : OpenClaim := { program := "ytefigjdebakccaa", sum := "bc9068e0a102d1f675f81eed668401cefe8f9d0d4aa4987d9d87b97187bd3c06", func := "pub-frond/laws.FnSortStays", spec := "fnSortStays", unfollowed := true, recurses := true, apart := false, narrowed := true }
def FnSortStaysUptoSaid : Prop := fnSortStaysUptoRow.holds Try.pinned (OpenSpec.upto fnSortStaysSpec)

/-- 'laws.FnSortMaps', WHERE WHAT IT READS IS OF BULK AT MOST 1048576: true; the input reads as it did. -/
def fnSortMapsUptoRow : OpenClaim := { program := "ytefigjdebakccaa", sum := "bc9068e0a102d1f675f81eed668401cefe8f9d0d4aa4987d9d87b97187bd3c06", func := "pub-frond/laws.FnSortMaps", spec := "fnSortMaps", unfollowed := true, recurses := true, apart := false, narrowed := true }
def FnSortMapsUptoSaid : Prop := fnSortMapsUptoRow.holds Try.pinned (OpenSpec.upto fnSortMapsSpec)

/-- 'laws.FnSortWalk', WHERE WHAT IT READS IS OF BULK AT MOST 1048576: true; the input reads as it did. -/
def fnSortWalkUptoRow : OpenClaim := { program := "ytefigjdebakccaa", sum := "bc9068e0a102d1f675f81eed668401cefe8f9d0d4aa4987d9d87b97187bd3c06", func := "pub-frond/laws.FnSortWalk", spec := "fnSortWalk", unfollowed := true, recurses := true, apart := false, narrowed := true }
def FnSortWalkUptoSaid : Prop := fnSortWalkUptoRow.holds Try.pinned (OpenSpec.upto fnSortWalkSpec)

/-- 'laws.FnSortBack', WHERE WHAT IT READS IS OF BULK AT MOST 1048576: true; the input reads as it did. -/
def fnSortBackUptoRow : OpenClaim := { program := "ytefigjdebakccaa", sum := "bc9068e0a102d1f675f81eed668401cefe8f9d0d4aa4987d9d87b97187bd3c06", func := "pub-frond/laws.FnSortBack", spec := "fnSortBack", unfollowed := true, recurses := true, apart := false, narrowed := true }
def FnSortBackUptoSaid : Prop := fnSortBackUptoRow.holds Try.pinned (OpenSpec.upto fnSortBackSpec)

/-- 'laws.FnSortOf', WHERE WHAT IT READS IS OF BULK AT MOST 1048576: true; the input reads as it did. -/
def fnSortOfUptoRow : OpenClaim := { program := "ytefigjdebakccaa", sum := "bc9068e0a102d1f675f81eed668401cefe8f9d0d4aa4987d9d87b97187bd3c06", func := "pub-frond/laws.FnSortOf", spec := "fnSortOf", unfollowed := true, recurses := true, apart := false, narrowed := true }
def FnSortOfUptoSaid : Prop := fnSortOfUptoRow.holds Try.pinned (OpenSpec.upto fnSortOfSpec)

/-- 'laws.FnSortAbsent', WHERE WHAT IT READS IS OF BULK AT MOST 1048576: true; the input reads as it did. -/
def fnSortAbsentUptoRow : OpenClaim := { program := "ytefigjdebakccaa", sum := "bc9068e0a102d1f675f81eed668401cefe8f9d0d4aa4987d9d87b97187bd3c06", func := "pub-frond/laws.FnSortAbsent", spec := "fnSortAbsent", unfollowed := true, recurses := true, apart := false, narrowed := true }
def FnSortAbsentUptoSaid : Prop := fnSortAbsentUptoRow.holds Try.pinned (OpenSpec.upto fnSortAbsentSpec)

/-- 'laws.FnSortEmptied', WHERE WHAT IT READS IS OF BULK AT MOST 1048576: true; the input reads as it did. -/
def fnSortEmptiedUptoRow : OpenClaim := { program := "ytefigjdebakccaa", sum := "bc9068e0a102d1f675f81eed668401cefe8f9d0d4aa4987d9d87b97187bd3c06", func := "pub-frond/laws.FnSortEmptied", spec := "fnSortEmptied", unfollowed := true, recurses := true, apart := false, narrowed := true }
def FnSortEmptiedUptoSaid : Prop := fnSortEmptiedUptoRow.holds Try.pinned (OpenSpec.upto fnSortEmptiedSpec)

/-- 'laws.FnSortBuild', WHERE WHAT IT READS IS OF BULK AT MOST 1048576: true; the input reads as it did. -/
def fnSortBuildUptoRow : OpenClaim := { program := "ytefigjdebakccaa", sum := "bc9068e0a102d1f675f81eed668401cefe8f9d0d4aa4987d9d87b97187bd3c06", func := "pub-frond/laws.FnSortBuild", spec := "fnSortBuild", unfollowed := true, recurses := true, apart := false, narrowed := true }
def FnSortBuildUptoSaid : Prop := fnSortBuildUptoRow.holds Try.pinned (OpenSpec.upto fnSortBuildSpec)

end Rows
end Go.Proofs.Ytefigjdebakccaa
