/-
  No cell of these rows narrows 'for every input' (looked for: loops, veiled, ifaces, maps, wideKeys, modest, calm, conditions, laid).
  DERIVED. THE GIVEN ROWS OF THIS SEAT. 16 by the template 'for every input the law returns true; each argument reads behind the call as it read before'; 0 by the template 'total and deterministic' (their statements: YtpkndcmgialgcaaTotals.lean).
  GIVEN WITH THE SEED: the statements are not yours to turn. If you find one false, say at which input.
  Laid BY PROGRAM, IN A SANDBOX (cutbox-rows.mjs): the forced cells as the released guide's own fill.sh prints them over the translation 504d004746bdca5b… (all of the seat's roots in one cut). By AI agents, Wed Nov 11 2026. No macro, syntax, notation, axiom, sorry.
-/
import Derived.Test.YtpkndcmgialgcaaChecked
import GoSem.Claim
import GoSem.ClaimJoined
import GoSem.ClaimMapViews
import Derived.JoinedTies
import Derived.KernelRfl
namespace Go.Proofs.Ytpkndcmgialgcaa
/- THE CELL 'sum', in the pinned program and in every row, IS THE sha256 OF THE DUMP (.gsa) THAT YtpkndcmgialgcaaProg.lean LOADS. Nothing in Lean hashes anything: it is a label: what it is worth is what the hold of that sum in a sandbox is worth. -/
noncomputable def Try.pinned : Pinned := { name := "ytpkndcmgialgcaa", sum := "504d004746bdca5b1f24bbfd00223d3e893339501408e6bfa611de288751e6c3", checked := Try.checked }
namespace Rows
def none {H : Type} : Left H := { results := [], args := [] }

/-- 'laws.FnMapLong': WHATEVER THE INPUT: true; the input reads as it did. -/
def fnMapLongSpec : ChangeSpec := { name := "fnMapLong", fn := fun _ => fun
  | [d1, d2] => { results := [.lit (.bool true)], args := [d1, d2] }
  | _ => none }
def fnMapLongRow : OpenClaim := { program := "ytpkndcmgialgcaa", sum := "504d004746bdca5b1f24bbfd00223d3e893339501408e6bfa611de288751e6c3", func := "pub-frond/laws.FnMapLong", spec := "fnMapLong", unfollowed := true, recurses := true, apart := false }
def FnMapLongSaid : Prop := fnMapLongRow.holds Try.pinned (OpenSpec.ofChange fnMapLongSpec)

/-- ITS FALSE NEIGHBOUR: 'it returns false'. Refute it at one input. -/
def fnMapLongWrong : ChangeSpec := { name := "fnMapLong", fn := fun _ => fun
  | [d1, d2] => { results := [.lit (.bool false)], args := [d1, d2] }
  | _ => none }
def FnMapLongWrongFalsely : Prop := fnMapLongRow.holds Try.pinned (OpenSpec.ofChange fnMapLongWrong)

/-- 'laws.FnMapOrder': WHATEVER THE INPUT: true; the input reads as it did. -/
def fnMapOrderSpec : ChangeSpec := { name := "fnMapOrder", fn := fun _ => fun
  | [d1, d2, d3] => { results := [.lit (.bool true)], args := [d1, d2, d3] }
  | _ => none }
def fnMapOrderRow : OpenClaim := { program := "ytpkndcmgialgcaa", sum := "504d004746bdca5b1f24bbfd00223d3e893339501408e6bfa611de288751e6c3", func := "pub-frond/laws.FnMapOrder", spec := "fnMapOrder", unfollowed := true, recurses := true, apart := false }
def FnMapOrderSaid : Prop := fnMapOrderRow.holds Try.pinned (OpenSpec.ofChange fnMapOrderSpec)

/-- ITS FALSE NEIGHBOUR: 'it returns false'. Refute it at one input. -/
def fnMapOrderWrong : ChangeSpec := { name := "fnMapOrder", fn := fun _ => fun
  | [d1, d2, d3] => { results := [.lit (.bool false)], args := [d1, d2, d3] }
  | _ => none }
def FnMapOrderWrongFalsely : Prop := fnMapOrderRow.holds Try.pinned (OpenSpec.ofChange fnMapOrderWrong)

/-- 'laws.FnMapUndone': WHATEVER THE INPUT: true; the input reads as it did. -/
def fnMapUndoneSpec : ChangeSpec := { name := "fnMapUndone", fn := fun _ => fun
  | [d1, d2, d3, d4] => { results := [.lit (.bool true)], args := [d1, d2, d3, d4] }
  | _ => none }
def fnMapUndoneRow : OpenClaim := { program := "ytpkndcmgialgcaa", sum := "504d004746bdca5b1f24bbfd00223d3e893339501408e6bfa611de288751e6c3", func := "pub-frond/laws.FnMapUndone", spec := "fnMapUndone", unfollowed := true, recurses := true, apart := false }
def FnMapUndoneSaid : Prop := fnMapUndoneRow.holds Try.pinned (OpenSpec.ofChange fnMapUndoneSpec)

/-- ITS FALSE NEIGHBOUR: 'it returns false'. Refute it at one input. -/
def fnMapUndoneWrong : ChangeSpec := { name := "fnMapUndone", fn := fun _ => fun
  | [d1, d2, d3, d4] => { results := [.lit (.bool false)], args := [d1, d2, d3, d4] }
  | _ => none }
def FnMapUndoneWrongFalsely : Prop := fnMapUndoneRow.holds Try.pinned (OpenSpec.ofChange fnMapUndoneWrong)

/-- 'laws.FnMapVersions': WHATEVER THE INPUT: true; the input reads as it did. -/
def fnMapVersionsSpec : ChangeSpec := { name := "fnMapVersions", fn := fun _ => fun
  | [d1, d2] => { results := [.lit (.bool true)], args := [d1, d2] }
  | _ => none }
def fnMapVersionsRow : OpenClaim := { program := "ytpkndcmgialgcaa", sum := "504d004746bdca5b1f24bbfd00223d3e893339501408e6bfa611de288751e6c3", func := "pub-frond/laws.FnMapVersions", spec := "fnMapVersions", unfollowed := true, recurses := true, apart := false }
def FnMapVersionsSaid : Prop := fnMapVersionsRow.holds Try.pinned (OpenSpec.ofChange fnMapVersionsSpec)

/-- ITS FALSE NEIGHBOUR: 'it returns false'. Refute it at one input. -/
def fnMapVersionsWrong : ChangeSpec := { name := "fnMapVersions", fn := fun _ => fun
  | [d1, d2] => { results := [.lit (.bool false)], args := [d1, d2] }
  | _ => none }
def FnMapVersionsWrongFalsely : Prop := fnMapVersionsRow.holds Try.pinned (OpenSpec.ofChange fnMapVersionsWrong)

/-- 'laws.FnMapOf': WHATEVER THE INPUT: true; the input reads as it did. -/
def fnMapOfSpec : ChangeSpec := { name := "fnMapOf", fn := fun _ => fun
  | [d1, d2] => { results := [.lit (.bool true)], args := [d1, d2] }
  | _ => none }
def fnMapOfRow : OpenClaim := { program := "ytpkndcmgialgcaa", sum := "504d004746bdca5b1f24bbfd00223d3e893339501408e6bfa611de288751e6c3", func := "pub-frond/laws.FnMapOf", spec := "fnMapOf", unfollowed := true, recurses := true, apart := false }
def FnMapOfSaid : Prop := fnMapOfRow.holds Try.pinned (OpenSpec.ofChange fnMapOfSpec)

/-- ITS FALSE NEIGHBOUR: 'it returns false'. Refute it at one input. -/
def fnMapOfWrong : ChangeSpec := { name := "fnMapOf", fn := fun _ => fun
  | [d1, d2] => { results := [.lit (.bool false)], args := [d1, d2] }
  | _ => none }
def FnMapOfWrongFalsely : Prop := fnMapOfRow.holds Try.pinned (OpenSpec.ofChange fnMapOfWrong)

/-- 'laws.FnMapWalk': WHATEVER THE INPUT: true; the input reads as it did. -/
def fnMapWalkSpec : ChangeSpec := { name := "fnMapWalk", fn := fun _ => fun
  | [d1, d2, d3, d4] => { results := [.lit (.bool true)], args := [d1, d2, d3, d4] }
  | _ => none }
def fnMapWalkRow : OpenClaim := { program := "ytpkndcmgialgcaa", sum := "504d004746bdca5b1f24bbfd00223d3e893339501408e6bfa611de288751e6c3", func := "pub-frond/laws.FnMapWalk", spec := "fnMapWalk", unfollowed := true, recurses := true, apart := false }
def FnMapWalkSaid : Prop := fnMapWalkRow.holds Try.pinned (OpenSpec.ofChange fnMapWalkSpec)

/-- ITS FALSE NEIGHBOUR: 'it returns false'. Refute it at one input. -/
def fnMapWalkWrong : ChangeSpec := { name := "fnMapWalk", fn := fun _ => fun
  | [d1, d2, d3, d4] => { results := [.lit (.bool false)], args := [d1, d2, d3, d4] }
  | _ => none }
def FnMapWalkWrongFalsely : Prop := fnMapWalkRow.holds Try.pinned (OpenSpec.ofChange fnMapWalkWrong)

/-- 'laws.FnMapAgain': WHATEVER THE INPUT: true; the input reads as it did. -/
def fnMapAgainSpec : ChangeSpec := { name := "fnMapAgain", fn := fun _ => fun
  | [d1, d2] => { results := [.lit (.bool true)], args := [d1, d2] }
  | _ => none }
def fnMapAgainRow : OpenClaim := { program := "ytpkndcmgialgcaa", sum := "504d004746bdca5b1f24bbfd00223d3e893339501408e6bfa611de288751e6c3", func := "pub-frond/laws.FnMapAgain", spec := "fnMapAgain", unfollowed := true, recurses := true, apart := false }
def FnMapAgainSaid : Prop := fnMapAgainRow.holds Try.pinned (OpenSpec.ofChange fnMapAgainSpec)

/-- ITS FALSE NEIGHBOUR: 'it returns false'. Refute it at one input. -/
def fnMapAgainWrong : ChangeSpec := { name := "fnMapAgain", fn := fun _ => fun
  | [d1, d2] => { results := [.lit (.bool false)], args := [d1, d2] }
  | _ => none }
def FnMapAgainWrongFalsely : Prop := fnMapAgainRow.holds Try.pinned (OpenSpec.ofChange fnMapAgainWrong)

/-- 'laws.FnMapTexts': WHATEVER THE INPUT: true; the input reads as it did. -/
def fnMapTextsSpec : ChangeSpec := { name := "fnMapTexts", fn := fun _ => fun
  | [d] => { results := [.lit (.bool true)], args := [d] }
  | _ => none }
def fnMapTextsRow : OpenClaim := { program := "ytpkndcmgialgcaa", sum := "504d004746bdca5b1f24bbfd00223d3e893339501408e6bfa611de288751e6c3", func := "pub-frond/laws.FnMapTexts", spec := "fnMapTexts", unfollowed := true, recurses := true, apart := false }
def FnMapTextsSaid : Prop := fnMapTextsRow.holds Try.pinned (OpenSpec.ofChange fnMapTextsSpec)

/-- ITS FALSE NEIGHBOUR: 'it returns false'. Refute it at one input. -/
def fnMapTextsWrong : ChangeSpec := { name := "fnMapTexts", fn := fun _ => fun
  | [d] => { results := [.lit (.bool false)], args := [d] }
  | _ => none }
def FnMapTextsWrongFalsely : Prop := fnMapTextsRow.holds Try.pinned (OpenSpec.ofChange fnMapTextsWrong)

/-- 'laws.FnSetVersions': WHATEVER THE INPUT: true; the input reads as it did. -/
def fnSetVersionsSpec : ChangeSpec := { name := "fnSetVersions", fn := fun _ => fun
  | [d1, d2, d3] => { results := [.lit (.bool true)], args := [d1, d2, d3] }
  | _ => none }
def fnSetVersionsRow : OpenClaim := { program := "ytpkndcmgialgcaa", sum := "504d004746bdca5b1f24bbfd00223d3e893339501408e6bfa611de288751e6c3", func := "pub-frond/laws.FnSetVersions", spec := "fnSetVersions", unfollowed := true, recurses := true, apart := false }
def FnSetVersionsSaid : Prop := fnSetVersionsRow.holds Try.pinned (OpenSpec.ofChange fnSetVersionsSpec)

/-- ITS FALSE NEIGHBOUR: 'it returns false'. Refute it at one input. -/
def fnSetVersionsWrong : ChangeSpec := { name := "fnSetVersions", fn := fun _ => fun
  | [d1, d2, d3] => { results := [.lit (.bool false)], args := [d1, d2, d3] }
  | _ => none }
def FnSetVersionsWrongFalsely : Prop := fnSetVersionsRow.holds Try.pinned (OpenSpec.ofChange fnSetVersionsWrong)

/-- 'laws.FnSetAlgebra': WHATEVER THE INPUT: true; the input reads as it did. -/
def fnSetAlgebraSpec : ChangeSpec := { name := "fnSetAlgebra", fn := fun _ => fun
  | [d1, d2, d3] => { results := [.lit (.bool true)], args := [d1, d2, d3] }
  | _ => none }
def fnSetAlgebraRow : OpenClaim := { program := "ytpkndcmgialgcaa", sum := "504d004746bdca5b1f24bbfd00223d3e893339501408e6bfa611de288751e6c3", func := "pub-frond/laws.FnSetAlgebra", spec := "fnSetAlgebra", unfollowed := true, recurses := true, apart := false }
def FnSetAlgebraSaid : Prop := fnSetAlgebraRow.holds Try.pinned (OpenSpec.ofChange fnSetAlgebraSpec)

/-- ITS FALSE NEIGHBOUR: 'it returns false'. Refute it at one input. -/
def fnSetAlgebraWrong : ChangeSpec := { name := "fnSetAlgebra", fn := fun _ => fun
  | [d1, d2, d3] => { results := [.lit (.bool false)], args := [d1, d2, d3] }
  | _ => none }
def FnSetAlgebraWrongFalsely : Prop := fnSetAlgebraRow.holds Try.pinned (OpenSpec.ofChange fnSetAlgebraWrong)

/-- 'laws.FnMapGet': WHATEVER THE INPUT: true; the input reads as it did. -/
def fnMapGetSpec : ChangeSpec := { name := "fnMapGet", fn := fun _ => fun
  | [d1, d2, d3, d4] => { results := [.lit (.bool true)], args := [d1, d2, d3, d4] }
  | _ => none }
def fnMapGetRow : OpenClaim := { program := "ytpkndcmgialgcaa", sum := "504d004746bdca5b1f24bbfd00223d3e893339501408e6bfa611de288751e6c3", func := "pub-frond/laws.FnMapGet", spec := "fnMapGet", unfollowed := true, recurses := true, apart := false }
def FnMapGetSaid : Prop := fnMapGetRow.holds Try.pinned (OpenSpec.ofChange fnMapGetSpec)

/-- ITS FALSE NEIGHBOUR: 'it returns false'. Refute it at one input. -/
def fnMapGetWrong : ChangeSpec := { name := "fnMapGet", fn := fun _ => fun
  | [d1, d2, d3, d4] => { results := [.lit (.bool false)], args := [d1, d2, d3, d4] }
  | _ => none }
def FnMapGetWrongFalsely : Prop := fnMapGetRow.holds Try.pinned (OpenSpec.ofChange fnMapGetWrong)

/-- 'laws.FnSetHas': WHATEVER THE INPUT: true; the input reads as it did. -/
def fnSetHasSpec : ChangeSpec := { name := "fnSetHas", fn := fun _ => fun
  | [d1, d2, d3, d4, d5] => { results := [.lit (.bool true)], args := [d1, d2, d3, d4, d5] }
  | _ => none }
def fnSetHasRow : OpenClaim := { program := "ytpkndcmgialgcaa", sum := "504d004746bdca5b1f24bbfd00223d3e893339501408e6bfa611de288751e6c3", func := "pub-frond/laws.FnSetHas", spec := "fnSetHas", unfollowed := true, recurses := true, apart := false }
def FnSetHasSaid : Prop := fnSetHasRow.holds Try.pinned (OpenSpec.ofChange fnSetHasSpec)

/-- ITS FALSE NEIGHBOUR: 'it returns false'. Refute it at one input. -/
def fnSetHasWrong : ChangeSpec := { name := "fnSetHas", fn := fun _ => fun
  | [d1, d2, d3, d4, d5] => { results := [.lit (.bool false)], args := [d1, d2, d3, d4, d5] }
  | _ => none }
def FnSetHasWrongFalsely : Prop := fnSetHasRow.holds Try.pinned (OpenSpec.ofChange fnSetHasWrong)

/-- 'laws.FnMapBuilder': WHATEVER THE INPUT: true; the input reads as it did. -/
def fnMapBuilderSpec : ChangeSpec := { name := "fnMapBuilder", fn := fun _ => fun
  | [d1, d2, d3] => { results := [.lit (.bool true)], args := [d1, d2, d3] }
  | _ => none }
def fnMapBuilderRow : OpenClaim := { program := "ytpkndcmgialgcaa", sum := "504d004746bdca5b1f24bbfd00223d3e893339501408e6bfa611de288751e6c3", func := "pub-frond/laws.FnMapBuilder", spec := "fnMapBuilder", unfollowed := true, recurses := true, apart := false }
def FnMapBuilderSaid : Prop := fnMapBuilderRow.holds Try.pinned (OpenSpec.ofChange fnMapBuilderSpec)

/-- ITS FALSE NEIGHBOUR: 'it returns false'. Refute it at one input. -/
def fnMapBuilderWrong : ChangeSpec := { name := "fnMapBuilder", fn := fun _ => fun
  | [d1, d2, d3] => { results := [.lit (.bool false)], args := [d1, d2, d3] }
  | _ => none }
def FnMapBuilderWrongFalsely : Prop := fnMapBuilderRow.holds Try.pinned (OpenSpec.ofChange fnMapBuilderWrong)

/-- 'laws.FnMapBuilt': WHATEVER THE INPUT: true; the input reads as it did. -/
def fnMapBuiltSpec : ChangeSpec := { name := "fnMapBuilt", fn := fun _ => fun
  | [d1, d2] => { results := [.lit (.bool true)], args := [d1, d2] }
  | _ => none }
def fnMapBuiltRow : OpenClaim := { program := "ytpkndcmgialgcaa", sum := "504d004746bdca5b1f24bbfd00223d3e893339501408e6bfa611de288751e6c3", func := "pub-frond/laws.FnMapBuilt", spec := "fnMapBuilt", unfollowed := true, recurses := true, apart := false }
def FnMapBuiltSaid : Prop := fnMapBuiltRow.holds Try.pinned (OpenSpec.ofChange fnMapBuiltSpec)

/-- ITS FALSE NEIGHBOUR: 'it returns false'. Refute it at one input. -/
def fnMapBuiltWrong : ChangeSpec := { name := "fnMapBuilt", fn := fun _ => fun
  | [d1, d2] => { results := [.lit (.bool false)], args := [d1, d2] }
  | _ => none }
def FnMapBuiltWrongFalsely : Prop := fnMapBuiltRow.holds Try.pinned (OpenSpec.ofChange fnMapBuiltWrong)

/-- 'laws.FnSetBuilder': WHATEVER THE INPUT: true; the input reads as it did. -/
def fnSetBuilderSpec : ChangeSpec := { name := "fnSetBuilder", fn := fun _ => fun
  | [d1, d2, d3] => { results := [.lit (.bool true)], args := [d1, d2, d3] }
  | _ => none }
def fnSetBuilderRow : OpenClaim := { program := "ytpkndcmgialgcaa", sum := "504d004746bdca5b1f24bbfd00223d3e893339501408e6bfa611de288751e6c3", func := "pub-frond/laws.FnSetBuilder", spec := "fnSetBuilder", unfollowed := true, recurses := true, apart := false }
def FnSetBuilderSaid : Prop := fnSetBuilderRow.holds Try.pinned (OpenSpec.ofChange fnSetBuilderSpec)

/-- ITS FALSE NEIGHBOUR: 'it returns false'. Refute it at one input. -/
def fnSetBuilderWrong : ChangeSpec := { name := "fnSetBuilder", fn := fun _ => fun
  | [d1, d2, d3] => { results := [.lit (.bool false)], args := [d1, d2, d3] }
  | _ => none }
def FnSetBuilderWrongFalsely : Prop := fnSetBuilderRow.holds Try.pinned (OpenSpec.ofChange fnSetBuilderWrong)

/-- 'laws.FnMapHashes': WHATEVER THE INPUT: true; the input reads as it did. -/
def fnMapHashesSpec : ChangeSpec := { name := "fnMapHashes", fn := fun _ => fun
  | [d1, d2, d3] => { results := [.lit (.bool true)], args := [d1, d2, d3] }
  | _ => none }
def fnMapHashesRow : OpenClaim := { program := "ytpkndcmgialgcaa", sum := "504d004746bdca5b1f24bbfd00223d3e893339501408e6bfa611de288751e6c3", func := "pub-frond/laws.FnMapHashes", spec := "fnMapHashes", unfollowed := true, recurses := true, apart := false }
def FnMapHashesSaid : Prop := fnMapHashesRow.holds Try.pinned (OpenSpec.ofChange fnMapHashesSpec)

/-- ITS FALSE NEIGHBOUR: 'it returns false'. Refute it at one input. -/
def fnMapHashesWrong : ChangeSpec := { name := "fnMapHashes", fn := fun _ => fun
  | [d1, d2, d3] => { results := [.lit (.bool false)], args := [d1, d2, d3] }
  | _ => none }
def FnMapHashesWrongFalsely : Prop := fnMapHashesRow.holds Try.pinned (OpenSpec.ofChange fnMapHashesWrong)

/- THE SECOND FORM. 'bulk': how many values and letters a reading holds, each counted each time it is reached (what is shared counts as often as it is met; a slice's spare places count too). A statement '..UptoSaid' is the law's where the arguments, and the package variables that the reading takes, are together of bulk at most 1048576: NARROWER than '..Said'. Prove '..Said' where nothing that the law and all that it calls make is longer than what came in: it says more and counts as full. Else prove '..UptoSaid'. A law counts once. -/
mutual
def uptoBulk {H : Type} : DataW H → Nat
  | .lit (.string bytes) => bytes.length + 1
  | .lit _ => 1
  | .nil => 1
  | .ptr d => uptoBulk d + 1
  | .slice elems spare => uptoBulkAll elems + uptoBulkAll spare + 1
  | .agg parts => uptoBulkAll parts + 1
  | .iface _ d => uptoBulk d + 1
  | .map entries => uptoBulkEntries entries + 1
  | .held _ => 1
def uptoBulkAll {H : Type} : List (DataW H) → Nat
  | [] => 0
  | d :: r => uptoBulk d + uptoBulkAll r
def uptoBulkEntries {H : Type} : List (Lit × DataW H) → Nat
  | [] => 0
  | x :: r => uptoBulkEntry x + uptoBulkEntries r
def uptoBulkEntry {H : Type} : Lit × DataW H → Nat
  | (.string bytes, d) => bytes.length + uptoBulk d + 1
  | (_, d) => uptoBulk d + 1
 end
def uptoSmall : (H : Type) → List (DataW H) → Bool := fun _ ds => decide (uptoBulkAll ds ≤ 1048576)
def OpenSpec.upto (s : _root_.Go.ChangeSpec) : _root_.Go.OpenSpec := { _root_.Go.OpenSpec.ofChange s with cond := some uptoSmall }

/-- 'laws.FnMapLong', WHERE WHAT IT READS IS OF BULK AT MOST 1048576: true; the input reads as it did. -/
def fnMapLongUptoRow : OpenClaim := { program := "ytpkndcmgialgcaa", sum := "504d004746bdca5b1f24bbfd00223d3e893339501408e6bfa611de288751e6c3", func := "pub-frond/laws.FnMapLong", spec := "fnMapLong", unfollowed := true, recurses := true, apart := false, narrowed := true }
def FnMapLongUptoSaid : Prop := fnMapLongUptoRow.holds Try.pinned (OpenSpec.upto fnMapLongSpec)

/-- 'laws.FnMapOrder', WHERE WHAT IT READS IS OF BULK AT MOST 1048576: true; the input reads as it did. -/
def fnMapOrderUptoRow : OpenClaim := { program := "ytpkndcmgialgcaa", sum := "504d004746bdca5b1f24bbfd00223d3e893339501408e6bfa611de288751e6c3", func := "pub-frond/laws.FnMapOrder", spec := "fnMapOrder", unfollowed := true, recurses := true, apart := false, narrowed := true }
def FnMapOrderUptoSaid : Prop := fnMapOrderUptoRow.holds Try.pinned (OpenSpec.upto fnMapOrderSpec)

/-- 'laws.FnMapUndone', WHERE WHAT IT READS IS OF BULK AT MOST 1048576: true; the input reads as it did. -/
def fnMapUndoneUptoRow : OpenClaim := { program := "ytpkndcmgialgcaa", sum := "504d004746bdca5b1f24bbfd00223d3e893339501408e6bfa611de288751e6c3", func := "pub-frond/laws.FnMapUndone", spec := "fnMapUndone", unfollowed := true, recurses := true, apart := false, narrowed := true }
def FnMapUndoneUptoSaid : Prop := fnMapUndoneUptoRow.holds Try.pinned (OpenSpec.upto fnMapUndoneSpec)

/-- 'laws.FnMapVersions', WHERE WHAT IT READS IS OF BULK AT MOST 1048576: true; the input reads as it did. -/
def fnMapVersionsUptoRow : OpenClaim := { program := "ytpkndcmgialgcaa", sum := "504d004746bdca5b1f24bbfd00223d3e893339501408e6bfa611de288751e6c3", func := "pub-frond/laws.FnMapVersions", spec := "fnMapVersions", unfollowed := true, recurses := true, apart := false, narrowed := true }
def FnMapVersionsUptoSaid : Prop := fnMapVersionsUptoRow.holds Try.pinned (OpenSpec.upto fnMapVersionsSpec)

/-- 'laws.FnMapOf', WHERE WHAT IT READS IS OF BULK AT MOST 1048576: true; the input reads as it did. -/
def fnMapOfUptoRow : OpenClaim := { program := "ytpkndcmgialgcaa", sum := "504d004746bdca5b1f24bbfd00223d3e893339501408e6bfa611de288751e6c3", func := "pub-frond/laws.FnMapOf", spec := "fnMapOf", unfollowed := true, recurses := true, apart := false, narrowed := true }
def FnMapOfUptoSaid : Prop := fnMapOfUptoRow.holds Try.pinned (OpenSpec.upto fnMapOfSpec)

/-- 'laws.FnMapWalk', WHERE WHAT IT READS IS OF BULK AT MOST 1048576: true; the input reads as it did. -/
def fnMapWalkUptoRow : OpenClaim := { program := "ytpkndcmgialgcaa", sum := "504d004746bdca5b1f24bbfd00223d3e893339501408e6bfa611de288751e6c3", func := "pub-frond/laws.FnMapWalk", spec := "fnMapWalk", unfollowed := true, recurses := true, apart := false, narrowed := true }
def FnMapWalkUptoSaid : Prop := fnMapWalkUptoRow.holds Try.pinned (OpenSpec.upto fnMapWalkSpec)

/-- 'laws.FnMapAgain', WHERE WHAT IT READS IS OF BULK AT MOST 1048576: true; the input reads as it did. -/
def fnMapAgainUptoRow : OpenClaim := { program := "ytpkndcmgialgcaa", sum := "504d004746bdca5b1f24bbfd00223d3e893339501408e6bfa611de288751e6c3", func := "pub-frond/laws.FnMapAgain", spec := "fnMapAgain", unfollowed := true, recurses := true, apart := false, narrowed := true }
def FnMapAgainUptoSaid : Prop := fnMapAgainUptoRow.holds Try.pinned (OpenSpec.upto fnMapAgainSpec)

/-- 'laws.FnMapTexts', WHERE WHAT IT READS IS OF BULK AT MOST 1048576: true; the input reads as it did. -/
def fnMapTextsUptoRow : OpenClaim := { program := "ytpkndcmgialgcaa", sum := "504d004746bdca5b1f24bbfd00223d3e893339501408e6bfa611de288751e6c3", func := "pub-frond/laws.FnMapTexts", spec := "fnMapTexts", unfollowed := true, recurses := true, apart := false, narrowed := true }
def FnMapTextsUptoSaid : Prop := fnMapTextsUptoRow.holds Try.pinned (OpenSpec.upto fnMapTextsSpec)

/-- 'laws.FnSetVersions', WHERE WHAT IT READS IS OF BULK AT MOST 1048576: true; the input reads as it did. -/
def fnSetVersionsUptoRow : OpenClaim := { program := "ytpkndcmgialgcaa", sum := "504d004746bdca5b1f24bbfd00223d3e893339501408e6bfa611de288751e6c3", func := "pub-frond/laws.FnSetVersions", spec := "fnSetVersions", unfollowed := true, recurses := true, apart := false, narrowed := true }
def FnSetVersionsUptoSaid : Prop := fnSetVersionsUptoRow.holds Try.pinned (OpenSpec.upto fnSetVersionsSpec)

/-- 'laws.FnSetAlgebra', WHERE WHAT IT READS IS OF BULK AT MOST 1048576: true; the input reads as it did. -/
def fnSetAlgebraUptoRow : OpenClaim := { program := "ytpkndcmgialgcaa", sum := "504d004746bdca5b1f24bbfd00223d3e893339501408e6bfa611de288751e6c3", func := "pub-frond/laws.FnSetAlgebra", spec := "fnSetAlgebra", unfollowed := true, recurses := true, apart := false, narrowed := true }
def FnSetAlgebraUptoSaid : Prop := fnSetAlgebraUptoRow.holds Try.pinned (OpenSpec.upto fnSetAlgebraSpec)

/-- 'laws.FnMapGet', WHERE WHAT IT READS IS OF BULK AT MOST 1048576: true; the input reads as it did. -/
def fnMapGetUptoRow : OpenClaim := { program := "ytpkndcmgialgcaa", sum := "504d004746bdca5b1f24bbfd00223d3e893339501408e6bfa611de288751e6c3", func := "pub-frond/laws.FnMapGet", spec := "fnMapGet", unfollowed := true, recurses := true, apart := false, narrowed := true }
def FnMapGetUptoSaid : Prop := fnMapGetUptoRow.holds Try.pinned (OpenSpec.upto fnMapGetSpec)

/-- 'laws.FnSetHas', WHERE WHAT IT READS IS OF BULK AT MOST 1048576: true; the input reads as it did. -/
def fnSetHasUptoRow : OpenClaim := { program := "ytpkndcmgialgcaa", sum := "504d004746bdca5b1f24bbfd00223d3e893339501408e6bfa611de288751e6c3", func := "pub-frond/laws.FnSetHas", spec := "fnSetHas", unfollowed := true, recurses := true, apart := false, narrowed := true }
def FnSetHasUptoSaid : Prop := fnSetHasUptoRow.holds Try.pinned (OpenSpec.upto fnSetHasSpec)

/-- 'laws.FnMapBuilder', WHERE WHAT IT READS IS OF BULK AT MOST 1048576: true; the input reads as it did. -/
def fnMapBuilderUptoRow : OpenClaim := { program := "ytpkndcmgialgcaa", sum := "504d004746bdca5b1f24bbfd00223d3e893339501408e6bfa611de288751e6c3", func := "pub-frond/laws.FnMapBuilder", spec := "fnMapBuilder", unfollowed := true, recurses := true, apart := false, narrowed := true }
def FnMapBuilderUptoSaid : Prop := fnMapBuilderUptoRow.holds Try.pinned (OpenSpec.upto fnMapBuilderSpec)

/-- 'laws.FnMapBuilt', WHERE WHAT IT READS IS OF BULK AT MOST 1048576: true; the input reads as it did. -/
def fnMapBuiltUptoRow : OpenClaim := { program := "ytpkndcmgialgcaa", sum := "504d004746bdca5b1f24bbfd00223d3e893339501408e6bfa611de288751e6c3", func := "pub-frond/laws.FnMapBuilt", spec := "fnMapBuilt", unfollowed := true, recurses := true, apart := false, narrowed := true }
def FnMapBuiltUptoSaid : Prop := fnMapBuiltUptoRow.holds Try.pinned (OpenSpec.upto fnMapBuiltSpec)

/-- 'laws.FnSetBuilder', WHERE WHAT IT READS IS OF BULK AT MOST 1048576: true; the input reads as it did. -/
def fnSetBuilderUptoRow : OpenClaim := { program := "ytpkndcmgialgcaa", sum := "504d004746bdca5b1f24bbfd00223d3e893339501408e6bfa611de288751e6c3", func := "pub-frond/laws.FnSetBuilder", spec := "fnSetBuilder", unfollowed := true, recurses := true, apart := false, narrowed := true }
def FnSetBuilderUptoSaid : Prop := fnSetBuilderUptoRow.holds Try.pinned (OpenSpec.upto fnSetBuilderSpec)

/-- 'laws.FnMapHashes', WHERE WHAT IT READS IS OF BULK AT MOST 1048576: true; the input reads as it did. -/
def fnMapHashesUptoRow : OpenClaim := { program := "ytpkndcmgialgcaa", sum := "504d004746bdca5b1f24bbfd00223d3e893339501408e6bfa611de288751e6c3", func := "pub-frond/laws.FnMapHashes", spec := "fnMapHashes", unfollowed := true, recurses := true, apart := false, narrowed := true }
def FnMapHashesUptoSaid : Prop := fnMapHashesUptoRow.holds Try.pinned (OpenSpec.upto fnMapHashesSpec)

end Rows
end Go.Proofs.Ytpkndcmgialgcaa
