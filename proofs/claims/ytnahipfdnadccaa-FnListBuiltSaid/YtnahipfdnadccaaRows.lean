/-
  No cell of these rows narrows 'for every input' (looked for: loops, veiled, ifaces, maps, wideKeys, modest, calm, conditions, laid).
  DERIVED. THE GIVEN ROWS OF THIS SEAT. 12 by the template 'for every input the law returns true; each argument reads behind the call as it read before'; 0 by the template 'total and deterministic' (their statements: YtnahipfdnadccaaTotals.lean).
  GIVEN WITH THE SEED: the statements are not yours to turn. If you find one false, say at which input.
  Laid BY PROGRAM, IN A SANDBOX (cutbox-rows.mjs): the forced cells as the released guide's own fill.sh prints them over the translation 8aa889fe83cc961a… (all of the seat's roots in one cut). By AI agents, Wed Nov 11 2026. No macro, syntax, notation, axiom, sorry.
-/
import Derived.Test.YtnahipfdnadccaaChecked
import GoSem.Claim
import GoSem.ClaimJoined
import GoSem.ClaimMapViews
import Derived.JoinedTies
import Derived.KernelRfl
namespace Go.Proofs.Ytnahipfdnadccaa
/- THE CELL 'sum', in the pinned program and in every row, IS THE sha256 OF THE DUMP (.gsa) THAT YtnahipfdnadccaaProg.lean LOADS. Nothing in Lean hashes anything: it is a label: what it is worth is what the hold of that sum in a sandbox is worth. -/
noncomputable def Try.pinned : Pinned := { name := "ytnahipfdnadccaa", sum := "8aa889fe83cc961ada6d866530dcb2c7f3f7aa013952f7c1175d85783aa3145e", checked := Try.checked }
namespace Rows
def none {H : Type} : Left H := { results := [], args := [] }

/-- 'laws.FnListRefused': WHATEVER THE INPUT: true; the input reads as it did. -/
def fnListRefusedSpec : ChangeSpec := { name := "fnListRefused", fn := fun _ => fun
  | [d1, d2, d3] => { results := [.lit (.bool true)], args := [d1, d2, d3] }
  | _ => none }
def fnListRefusedRow : OpenClaim := { program := "ytnahipfdnadccaa", sum := "8aa889fe83cc961ada6d866530dcb2c7f3f7aa013952f7c1175d85783aa3145e", func := "pub-frond/laws.FnListRefused", spec := "fnListRefused", unfollowed := true, recurses := true, apart := false }
def FnListRefusedSaid : Prop := fnListRefusedRow.holds Try.pinned (OpenSpec.ofChange fnListRefusedSpec)

/-- ITS FALSE NEIGHBOUR: 'it returns false'. Refute it at one input. -/
def fnListRefusedWrong : ChangeSpec := { name := "fnListRefused", fn := fun _ => fun
  | [d1, d2, d3] => { results := [.lit (.bool false)], args := [d1, d2, d3] }
  | _ => none }
def FnListRefusedWrongFalsely : Prop := fnListRefusedRow.holds Try.pinned (OpenSpec.ofChange fnListRefusedWrong)

/-- 'laws.FnListSlices': WHATEVER THE INPUT: true; the input reads as it did. -/
def fnListSlicesSpec : ChangeSpec := { name := "fnListSlices", fn := fun _ => fun
  | [d1, d2, d3, d4, d5] => { results := [.lit (.bool true)], args := [d1, d2, d3, d4, d5] }
  | _ => none }
def fnListSlicesRow : OpenClaim := { program := "ytnahipfdnadccaa", sum := "8aa889fe83cc961ada6d866530dcb2c7f3f7aa013952f7c1175d85783aa3145e", func := "pub-frond/laws.FnListSlices", spec := "fnListSlices", unfollowed := true, recurses := true, apart := false }
def FnListSlicesSaid : Prop := fnListSlicesRow.holds Try.pinned (OpenSpec.ofChange fnListSlicesSpec)

/-- ITS FALSE NEIGHBOUR: 'it returns false'. Refute it at one input. -/
def fnListSlicesWrong : ChangeSpec := { name := "fnListSlices", fn := fun _ => fun
  | [d1, d2, d3, d4, d5] => { results := [.lit (.bool false)], args := [d1, d2, d3, d4, d5] }
  | _ => none }
def FnListSlicesWrongFalsely : Prop := fnListSlicesRow.holds Try.pinned (OpenSpec.ofChange fnListSlicesWrong)

/-- 'laws.FnListUndone': WHATEVER THE INPUT: true; the input reads as it did. -/
def fnListUndoneSpec : ChangeSpec := { name := "fnListUndone", fn := fun _ => fun
  | [d1, d2, d3] => { results := [.lit (.bool true)], args := [d1, d2, d3] }
  | _ => none }
def fnListUndoneRow : OpenClaim := { program := "ytnahipfdnadccaa", sum := "8aa889fe83cc961ada6d866530dcb2c7f3f7aa013952f7c1175d85783aa3145e", func := "pub-frond/laws.FnListUndone", spec := "fnListUndone", unfollowed := true, recurses := true, apart := false }
def FnListUndoneSaid : Prop := fnListUndoneRow.holds Try.pinned (OpenSpec.ofChange fnListUndoneSpec)

/-- ITS FALSE NEIGHBOUR: 'it returns false'. Refute it at one input. -/
def fnListUndoneWrong : ChangeSpec := { name := "fnListUndone", fn := fun _ => fun
  | [d1, d2, d3] => { results := [.lit (.bool false)], args := [d1, d2, d3] }
  | _ => none }
def FnListUndoneWrongFalsely : Prop := fnListUndoneRow.holds Try.pinned (OpenSpec.ofChange fnListUndoneWrong)

/-- 'laws.FnListSets': WHATEVER THE INPUT: true; the input reads as it did. -/
def fnListSetsSpec : ChangeSpec := { name := "fnListSets", fn := fun _ => fun
  | [d1, d2, d3] => { results := [.lit (.bool true)], args := [d1, d2, d3] }
  | _ => none }
def fnListSetsRow : OpenClaim := { program := "ytnahipfdnadccaa", sum := "8aa889fe83cc961ada6d866530dcb2c7f3f7aa013952f7c1175d85783aa3145e", func := "pub-frond/laws.FnListSets", spec := "fnListSets", unfollowed := true, recurses := true, apart := false }
def FnListSetsSaid : Prop := fnListSetsRow.holds Try.pinned (OpenSpec.ofChange fnListSetsSpec)

/-- ITS FALSE NEIGHBOUR: 'it returns false'. Refute it at one input. -/
def fnListSetsWrong : ChangeSpec := { name := "fnListSets", fn := fun _ => fun
  | [d1, d2, d3] => { results := [.lit (.bool false)], args := [d1, d2, d3] }
  | _ => none }
def FnListSetsWrongFalsely : Prop := fnListSetsRow.holds Try.pinned (OpenSpec.ofChange fnListSetsWrong)

/-- 'laws.FnListBranches': WHATEVER THE INPUT: true; the input reads as it did. -/
def fnListBranchesSpec : ChangeSpec := { name := "fnListBranches", fn := fun _ => fun
  | [d1, d2] => { results := [.lit (.bool true)], args := [d1, d2] }
  | _ => none }
def fnListBranchesRow : OpenClaim := { program := "ytnahipfdnadccaa", sum := "8aa889fe83cc961ada6d866530dcb2c7f3f7aa013952f7c1175d85783aa3145e", func := "pub-frond/laws.FnListBranches", spec := "fnListBranches", unfollowed := true, recurses := true, apart := false }
def FnListBranchesSaid : Prop := fnListBranchesRow.holds Try.pinned (OpenSpec.ofChange fnListBranchesSpec)

/-- ITS FALSE NEIGHBOUR: 'it returns false'. Refute it at one input. -/
def fnListBranchesWrong : ChangeSpec := { name := "fnListBranches", fn := fun _ => fun
  | [d1, d2] => { results := [.lit (.bool false)], args := [d1, d2] }
  | _ => none }
def FnListBranchesWrongFalsely : Prop := fnListBranchesRow.holds Try.pinned (OpenSpec.ofChange fnListBranchesWrong)

/-- 'laws.FnListLong': WHATEVER THE INPUT: true; the input reads as it did. -/
def fnListLongSpec : ChangeSpec := { name := "fnListLong", fn := fun _ => fun
  | [d] => { results := [.lit (.bool true)], args := [d] }
  | _ => none }
def fnListLongRow : OpenClaim := { program := "ytnahipfdnadccaa", sum := "8aa889fe83cc961ada6d866530dcb2c7f3f7aa013952f7c1175d85783aa3145e", func := "pub-frond/laws.FnListLong", spec := "fnListLong", unfollowed := true, recurses := true, apart := false }
def FnListLongSaid : Prop := fnListLongRow.holds Try.pinned (OpenSpec.ofChange fnListLongSpec)

/-- ITS FALSE NEIGHBOUR: 'it returns false'. Refute it at one input. -/
def fnListLongWrong : ChangeSpec := { name := "fnListLong", fn := fun _ => fun
  | [d] => { results := [.lit (.bool false)], args := [d] }
  | _ => none }
def FnListLongWrongFalsely : Prop := fnListLongRow.holds Try.pinned (OpenSpec.ofChange fnListLongWrong)

/-- 'laws.FnListVersions': WHATEVER THE INPUT: true; the input reads as it did. -/
def fnListVersionsSpec : ChangeSpec := { name := "fnListVersions", fn := fun _ => fun
  | [d1, d2] => { results := [.lit (.bool true)], args := [d1, d2] }
  | _ => none }
def fnListVersionsRow : OpenClaim := { program := "ytnahipfdnadccaa", sum := "8aa889fe83cc961ada6d866530dcb2c7f3f7aa013952f7c1175d85783aa3145e", func := "pub-frond/laws.FnListVersions", spec := "fnListVersions", unfollowed := true, recurses := true, apart := false }
def FnListVersionsSaid : Prop := fnListVersionsRow.holds Try.pinned (OpenSpec.ofChange fnListVersionsSpec)

/-- ITS FALSE NEIGHBOUR: 'it returns false'. Refute it at one input. -/
def fnListVersionsWrong : ChangeSpec := { name := "fnListVersions", fn := fun _ => fun
  | [d1, d2] => { results := [.lit (.bool false)], args := [d1, d2] }
  | _ => none }
def FnListVersionsWrongFalsely : Prop := fnListVersionsRow.holds Try.pinned (OpenSpec.ofChange fnListVersionsWrong)

/-- 'laws.FnListJoined': WHATEVER THE INPUT: true; the input reads as it did. -/
def fnListJoinedSpec : ChangeSpec := { name := "fnListJoined", fn := fun _ => fun
  | [d1, d2] => { results := [.lit (.bool true)], args := [d1, d2] }
  | _ => none }
def fnListJoinedRow : OpenClaim := { program := "ytnahipfdnadccaa", sum := "8aa889fe83cc961ada6d866530dcb2c7f3f7aa013952f7c1175d85783aa3145e", func := "pub-frond/laws.FnListJoined", spec := "fnListJoined", unfollowed := true, recurses := true, apart := false }
def FnListJoinedSaid : Prop := fnListJoinedRow.holds Try.pinned (OpenSpec.ofChange fnListJoinedSpec)

/-- ITS FALSE NEIGHBOUR: 'it returns false'. Refute it at one input. -/
def fnListJoinedWrong : ChangeSpec := { name := "fnListJoined", fn := fun _ => fun
  | [d1, d2] => { results := [.lit (.bool false)], args := [d1, d2] }
  | _ => none }
def FnListJoinedWrongFalsely : Prop := fnListJoinedRow.holds Try.pinned (OpenSpec.ofChange fnListJoinedWrong)

/-- 'laws.FnListThrough': WHATEVER THE INPUT: true; the input reads as it did. -/
def fnListThroughSpec : ChangeSpec := { name := "fnListThrough", fn := fun _ => fun
  | [d1, d2, d3] => { results := [.lit (.bool true)], args := [d1, d2, d3] }
  | _ => none }
def fnListThroughRow : OpenClaim := { program := "ytnahipfdnadccaa", sum := "8aa889fe83cc961ada6d866530dcb2c7f3f7aa013952f7c1175d85783aa3145e", func := "pub-frond/laws.FnListThrough", spec := "fnListThrough", unfollowed := true, recurses := true, apart := false }
def FnListThroughSaid : Prop := fnListThroughRow.holds Try.pinned (OpenSpec.ofChange fnListThroughSpec)

/-- ITS FALSE NEIGHBOUR: 'it returns false'. Refute it at one input. -/
def fnListThroughWrong : ChangeSpec := { name := "fnListThrough", fn := fun _ => fun
  | [d1, d2, d3] => { results := [.lit (.bool false)], args := [d1, d2, d3] }
  | _ => none }
def FnListThroughWrongFalsely : Prop := fnListThroughRow.holds Try.pinned (OpenSpec.ofChange fnListThroughWrong)

/-- 'laws.FnListWalk': WHATEVER THE INPUT: true; the input reads as it did. -/
def fnListWalkSpec : ChangeSpec := { name := "fnListWalk", fn := fun _ => fun
  | [d1, d2, d3, d4] => { results := [.lit (.bool true)], args := [d1, d2, d3, d4] }
  | _ => none }
def fnListWalkRow : OpenClaim := { program := "ytnahipfdnadccaa", sum := "8aa889fe83cc961ada6d866530dcb2c7f3f7aa013952f7c1175d85783aa3145e", func := "pub-frond/laws.FnListWalk", spec := "fnListWalk", unfollowed := true, recurses := true, apart := false }
def FnListWalkSaid : Prop := fnListWalkRow.holds Try.pinned (OpenSpec.ofChange fnListWalkSpec)

/-- ITS FALSE NEIGHBOUR: 'it returns false'. Refute it at one input. -/
def fnListWalkWrong : ChangeSpec := { name := "fnListWalk", fn := fun _ => fun
  | [d1, d2, d3, d4] => { results := [.lit (.bool false)], args := [d1, d2, d3, d4] }
  | _ => none }
def FnListWalkWrongFalsely : Prop := fnListWalkRow.holds Try.pinned (OpenSpec.ofChange fnListWalkWrong)

/-- 'laws.FnListBuilder': WHATEVER THE INPUT: true; the input reads as it did. -/
def fnListBuilderSpec : ChangeSpec := { name := "fnListBuilder", fn := fun _ => fun
  | [d1, d2] => { results := [.lit (.bool true)], args := [d1, d2] }
  | _ => none }
def fnListBuilderRow : OpenClaim := { program := "ytnahipfdnadccaa", sum := "8aa889fe83cc961ada6d866530dcb2c7f3f7aa013952f7c1175d85783aa3145e", func := "pub-frond/laws.FnListBuilder", spec := "fnListBuilder", unfollowed := true, recurses := true, apart := false }
def FnListBuilderSaid : Prop := fnListBuilderRow.holds Try.pinned (OpenSpec.ofChange fnListBuilderSpec)

/-- ITS FALSE NEIGHBOUR: 'it returns false'. Refute it at one input. -/
def fnListBuilderWrong : ChangeSpec := { name := "fnListBuilder", fn := fun _ => fun
  | [d1, d2] => { results := [.lit (.bool false)], args := [d1, d2] }
  | _ => none }
def FnListBuilderWrongFalsely : Prop := fnListBuilderRow.holds Try.pinned (OpenSpec.ofChange fnListBuilderWrong)

/-- 'laws.FnListBuilt': WHATEVER THE INPUT: true; the input reads as it did. -/
def fnListBuiltSpec : ChangeSpec := { name := "fnListBuilt", fn := fun _ => fun
  | [d] => { results := [.lit (.bool true)], args := [d] }
  | _ => none }
def fnListBuiltRow : OpenClaim := { program := "ytnahipfdnadccaa", sum := "8aa889fe83cc961ada6d866530dcb2c7f3f7aa013952f7c1175d85783aa3145e", func := "pub-frond/laws.FnListBuilt", spec := "fnListBuilt", unfollowed := true, recurses := true, apart := false }
def FnListBuiltSaid : Prop := fnListBuiltRow.holds Try.pinned (OpenSpec.ofChange fnListBuiltSpec)

/-- ITS FALSE NEIGHBOUR: 'it returns false'. Refute it at one input. -/
def fnListBuiltWrong : ChangeSpec := { name := "fnListBuilt", fn := fun _ => fun
  | [d] => { results := [.lit (.bool false)], args := [d] }
  | _ => none }
def FnListBuiltWrongFalsely : Prop := fnListBuiltRow.holds Try.pinned (OpenSpec.ofChange fnListBuiltWrong)

/- THE SECOND FORM. 'bulk': how many values and letters a reading holds, each counted each time it is reached (what is shared counts as often as it is met; a slice's spare places count too). A statement '..UptoSaid' is the law's where the arguments, and the package variables that the reading takes, are together of bulk at most 1048576: NARROWER than '..Said'. Prove '..Said' where nothing that the law and all that it calls make is longer than what came in: it says more and counts as full. Else prove '..UptoSaid'. A law counts once. -/
mutual
def uptoBulk {H : Type} : DataW H → Nat
  | .lit (.string bytes) => bytes.length + 1
  | .lit _ => 1
  | .nil => 1
  | .ptr d => uptoBulk d + 1
  | .slice elems spare => uptoBulkAll elems + uptoBulkAll spare + 1
  | .agg parts => uptoBulkAll parts + 1
  | .iface _ d => uptoBulk d + 1
  | .map entries => uptoBulkEntries entries + 1
  | .held _ => 1
def uptoBulkAll {H : Type} : List (DataW H) → Nat
  | [] => 0
  | d :: r => uptoBulk d + uptoBulkAll r
def uptoBulkEntries {H : Type} : List (Lit × DataW H) → Nat
  | [] => 0
  | x :: r => uptoBulkEntry x + uptoBulkEntries r
def uptoBulkEntry {H : Type} : Lit × DataW H → Nat
  | (.string bytes, d) => bytes.length + uptoBulk d + 1
  | (_, d) => uptoBulk d + 1
 end
def uptoSmall : (H : Type) → List (DataW H) → Bool := fun _ ds => decide (uptoBulkAll ds ≤ 1048576)
def OpenSpec.upto (s : _root_.Go.ChangeSpec) : _root_.Go.OpenSpec := { _root_.Go.OpenSpec.ofChange s with cond := some uptoSmall }

/-- 'laws.FnListRefused', WHERE WHAT IT READS IS OF BULK AT MOST 1048576: true; the input reads as it did. -/
def fnListRefusedUptoRow : OpenClaim := { program := "ytnahipfdnadccaa", sum := "8aa889fe83cc961ada6d866530dcb2c7f3f7aa013952f7c1175d85783aa3145e", func := "pub-frond/laws.FnListRefused", spec := "fnListRefused", unfollowed := true, recurses := true, apart := false, narrowed := true }
def FnListRefusedUptoSaid : Prop := fnListRefusedUptoRow.holds Try.pinned (OpenSpec.upto fnListRefusedSpec)

/-- 'laws.FnListSlices', WHERE WHAT IT READS IS OF BULK AT MOST 1048576: true; the input reads as it did. -/
def fnListSlicesUptoRow : OpenClaim := { program := "ytnahipfdnadccaa", sum := "8aa889fe83cc961ada6d866530dcb2c7f3f7aa013952f7c1175d85783aa3145e", func := "pub-frond/laws.FnListSlices", spec := "fnListSlices", unfollowed := true, recurses := true, apart := false, narrowed := true }
def FnListSlicesUptoSaid : Prop := fnListSlicesUptoRow.holds Try.pinned (OpenSpec.upto fnListSlicesSpec)

/-- 'laws.FnListUndone', WHERE WHAT IT READS IS OF BULK AT MOST 1048576: true; the input reads as it did. -/
def fnListUndoneUptoRow : OpenClaim := { program := "ytnahipfdnadccaa", sum := "8aa889fe83cc961ada6d866530dcb2c7f3f7aa013952f7c1175d85783aa3145e", func := "pub-frond/laws.FnListUndone", spec := "fnListUndone", unfollowed := true, recurses := true, apart := false, narrowed := true }
def FnListUndoneUptoSaid : Prop := fnListUndoneUptoRow.holds Try.pinned (OpenSpec.upto fnListUndoneSpec)

/-- 'laws.FnListSets', WHERE WHAT IT READS IS OF BULK AT MOST 1048576: true; the input reads as it did. -/
def fnListSetsUptoRow : OpenClaim := { program := "ytnahipfdnadccaa", sum := "8aa889fe83cc961ada6d866530dcb2c7f3f7aa013952f7c1175d85783aa3145e", func := "pub-frond/laws.FnListSets", spec := "fnListSets", unfollowed := true, recurses := true, apart := false, narrowed := true }
def FnListSetsUptoSaid : Prop := fnListSetsUptoRow.holds Try.pinned (OpenSpec.upto fnListSetsSpec)

/-- 'laws.FnListBranches', WHERE WHAT IT READS IS OF BULK AT MOST 1048576: true; the input reads as it did. -/
def fnListBranchesUptoRow : OpenClaim := { program := "ytnahipfdnadccaa", sum := "8aa889fe83cc961ada6d866530dcb2c7f3f7aa013952f7c1175d85783aa3145e", func := "pub-frond/laws.FnListBranches", spec := "fnListBranches", unfollowed := true, recurses := true, apart := false, narrowed := true }
def FnListBranchesUptoSaid : Prop := fnListBranchesUptoRow.holds Try.pinned (OpenSpec.upto fnListBranchesSpec)

/-- 'laws.FnListLong', WHERE WHAT IT READS IS OF BULK AT MOST 1048576: true; the input reads as it did. -/
def fnListLongUptoRow : OpenClaim := { program := "ytnahipfdnadccaa", sum := "8aa889fe83cc961ada6d866530dcb2c7f3f7aa013952f7c1175d85783aa3145e", func := "pub-frond/laws.FnListLong", spec := "fnListLong", unfollowed := true, recurses := true, apart := false, narrowed := true }
def FnListLongUptoSaid : Prop := fnListLongUptoRow.holds Try.pinned (OpenSpec.upto fnListLongSpec)

/-- 'laws.FnListVersions', WHERE WHAT IT READS IS OF BULK AT MOST 1048576: true; the input reads as it did. -/
def fnListVersionsUptoRow : OpenClaim := { program := "ytnahipfdnadccaa", sum := "8aa889fe83cc961ada6d866530dcb2c7f3f7aa013952f7c1175d85783aa3145e", func := "pub-frond/laws.FnListVersions", spec := "fnListVersions", unfollowed := true, recurses := true, apart := false, narrowed := true }
def FnListVersionsUptoSaid : Prop := fnListVersionsUptoRow.holds Try.pinned (OpenSpec.upto fnListVersionsSpec)

/-- 'laws.FnListJoined', WHERE WHAT IT READS IS OF BULK AT MOST 1048576: true; the input reads as it did. -/
def fnListJoinedUptoRow : OpenClaim := { program := "ytnahipfdnadccaa", sum := "8aa889fe83cc961ada6d866530dcb2c7f3f7aa013952f7c1175d85783aa3145e", func := "pub-frond/laws.FnListJoined", spec := "fnListJoined", unfollowed := true, recurses := true, apart := false, narrowed := true }
def FnListJoinedUptoSaid : Prop := fnListJoinedUptoRow.holds Try.pinned (OpenSpec.upto fnListJoinedSpec)

/-- 'laws.FnListThrough', WHERE WHAT IT READS IS OF BULK AT MOST 1048576: true; the input reads as it did. -/
def fnListThroughUptoRow : OpenClaim := { program := "ytnahipfdnadccaa", sum := "8aa889fe83cc961ada6d866530dcb2c7f3f7aa013952f7c1175d85783aa3145e", func := "pub-frond/laws.FnListThrough", spec := "fnListThrough", unfollowed := true, recurses := true, apart := false, narrowed := true }
def FnListThroughUptoSaid : Prop := fnListThroughUptoRow.holds Try.pinned (OpenSpec.upto fnListThroughSpec)

/-- 'laws.FnListWalk', WHERE WHAT IT READS IS OF BULK AT MOST 1048576: true; the input reads as it did. -/
def fnListWalkUptoRow : OpenClaim := { program := "ytnahipfdnadccaa", sum := "8aa889fe83cc961ada6d866530dcb2c7f3f7aa013952f7c1175d85783aa3145e", func := "pub-frond/laws.FnListWalk", spec := "fnListWalk", unfollowed := true, recurses := true, apart := false, narrowed := true }
def FnListWalkUptoSaid : Prop := fnListWalkUptoRow.holds Try.pinned (OpenSpec.upto fnListWalkSpec)

/-- 'laws.FnListBuilder', WHERE WHAT IT READS IS OF BULK AT MOST 1048576: true; the input reads as it did. -/
def fnListBuilderUptoRow : OpenClaim := { program := "ytnahipfdnadccaa", sum := "8aa889fe83cc961ada6d866530dcb2c7f3f7aa013952f7c1175d85783aa3145e", func := "pub-frond/laws.FnListBuilder", spec := "fnListBuilder", unfollowed := true, recurses := true, apart := false, narrowed := true }
def FnListBuilderUptoSaid : Prop := fnListBuilderUptoRow.holds Try.pinned (OpenSpec.upto fnListBuilderSpec)

/-- 'laws.FnListBuilt', WHERE WHAT IT READS IS OF BULK AT MOST 1048576: true; the input reads as it did. -/
def fnListBuiltUptoRow : OpenClaim := { program := "ytnahipfdnadccaa", sum := "8aa889fe83cc961ada6d866530dcb2c7f3f7aa013952f7c1175d85783aa3145e", func := "pub-frond/laws.FnListBuilt", spec := "fnListBuilt", unfollowed := true, recurses := true, apart := false, narrowed := true }
def FnListBuiltUptoSaid : Prop := fnListBuiltUptoRow.holds Try.pinned (OpenSpec.upto fnListBuiltSpec)

end Rows
end Go.Proofs.Ytnahipfdnadccaa
