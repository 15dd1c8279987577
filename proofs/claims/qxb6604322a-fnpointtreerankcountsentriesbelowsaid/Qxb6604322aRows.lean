/-
  No cell of these rows narrows 'for every input' (looked for: loops, veiled, ifaces, maps, wideKeys, modest, calm, conditions, laid).
  DERIVED. THE GIVEN ROWS OF THIS SEAT. 5 by the template 'for every input the law returns true; each argument reads behind the call as it read before'; 0 by the template 'total and deterministic' (their statements: Qxb6604322aTotals.lean).
  GIVEN WITH THE SEED: the statements are not yours to turn. If you find one false, say at which input.
  Laid BY PROGRAM, IN A SANDBOX (cutbox-rows.mjs): the forced cells as the released guide's own fill.sh prints them over the translation cb8b6a25832727bb… (all of the seat's roots in one cut). By AI agents, Wed Nov 11 2026. No macro, syntax, notation, axiom, sorry.
-/
import Derived.Test.Qxb6604322aChecked
import GoSem.Claim
import GoSem.ClaimJoined
import GoSem.ClaimMapViews
import Derived.JoinedTies
import Derived.KernelRfl
namespace Go.Proofs.Qxb6604322a
/- THE CELL 'sum', in the pinned program and in every row, IS THE sha256 OF THE DUMP (.gsa) THAT Qxb6604322aProg.lean LOADS. Nothing in Lean hashes anything: it is a label: what it is worth is what the hold of that sum in a sandbox is worth. -/
noncomputable def Try.pinned : Pinned := { name := "qxb6604322a", sum := "cb8b6a25832727bb307b45ba2f3beaace91a9eb16bcb3e89f002665c55047ab2", checked := Try.checked }
namespace Rows
def none {H : Type} : Left H := { results := [], args := [] }

/-- 'zzlaws_root_b1.FnJavaIllFormedLenIsMaximalSubpart': WHATEVER THE INPUT: true; the input reads as it did. -/
def fnJavaIllFormedLenIsMaximalSubpartSpec : ChangeSpec := { name := "fnJavaIllFormedLenIsMaximalSubpart", fn := fun _ => fun
  | [d] => { results := [.lit (.bool true)], args := [d] }
  | _ => none }
def fnJavaIllFormedLenIsMaximalSubpartRow : OpenClaim := { program := "qxb6604322a", sum := "cb8b6a25832727bb307b45ba2f3beaace91a9eb16bcb3e89f002665c55047ab2", func := "example.com/ringmark/ringmark/zzlaws_root_b1.FnJavaIllFormedLenIsMaximalSubpart", spec := "fnJavaIllFormedLenIsMaximalSubpart", apart := false }
def FnJavaIllFormedLenIsMaximalSubpartSaid : Prop := fnJavaIllFormedLenIsMaximalSubpartRow.holds Try.pinned (OpenSpec.ofChange fnJavaIllFormedLenIsMaximalSubpartSpec)

/-- ITS FALSE NEIGHBOUR: 'it returns false'. Refute it at one input. -/
def fnJavaIllFormedLenIsMaximalSubpartWrong : ChangeSpec := { name := "fnJavaIllFormedLenIsMaximalSubpart", fn := fun _ => fun
  | [d] => { results := [.lit (.bool false)], args := [d] }
  | _ => none }
def FnJavaIllFormedLenIsMaximalSubpartWrongFalsely : Prop := fnJavaIllFormedLenIsMaximalSubpartRow.holds Try.pinned (OpenSpec.ofChange fnJavaIllFormedLenIsMaximalSubpartWrong)

/-- 'zzlaws_root_b1.FnJavaIllFormedLenIsDecidedByItsOwnBytes': WHATEVER THE INPUT: true; the input reads as it did. -/
def fnJavaIllFormedLenIsDecidedByItsOwnBytesSpec : ChangeSpec := { name := "fnJavaIllFormedLenIsDecidedByItsOwnBytes", fn := fun _ => fun
  | [d] => { results := [.lit (.bool true)], args := [d] }
  | _ => none }
def fnJavaIllFormedLenIsDecidedByItsOwnBytesRow : OpenClaim := { program := "qxb6604322a", sum := "cb8b6a25832727bb307b45ba2f3beaace91a9eb16bcb3e89f002665c55047ab2", func := "example.com/ringmark/ringmark/zzlaws_root_b1.FnJavaIllFormedLenIsDecidedByItsOwnBytes", spec := "fnJavaIllFormedLenIsDecidedByItsOwnBytes", apart := false }
def FnJavaIllFormedLenIsDecidedByItsOwnBytesSaid : Prop := fnJavaIllFormedLenIsDecidedByItsOwnBytesRow.holds Try.pinned (OpenSpec.ofChange fnJavaIllFormedLenIsDecidedByItsOwnBytesSpec)

/-- ITS FALSE NEIGHBOUR: 'it returns false'. Refute it at one input. -/
def fnJavaIllFormedLenIsDecidedByItsOwnBytesWrong : ChangeSpec := { name := "fnJavaIllFormedLenIsDecidedByItsOwnBytes", fn := fun _ => fun
  | [d] => { results := [.lit (.bool false)], args := [d] }
  | _ => none }
def FnJavaIllFormedLenIsDecidedByItsOwnBytesWrongFalsely : Prop := fnJavaIllFormedLenIsDecidedByItsOwnBytesRow.holds Try.pinned (OpenSpec.ofChange fnJavaIllFormedLenIsDecidedByItsOwnBytesWrong)

/-- 'zzlaws_root_b1.FnPointTreeRankCountsEntriesBelow': WHATEVER THE INPUT: true; the input reads as it did. -/
def fnPointTreeRankCountsEntriesBelowSpec : ChangeSpec := { name := "fnPointTreeRankCountsEntriesBelow", fn := fun _ => fun
  | [d1, d2, d3, d4, d5, d6, d7, d8, d9, d10] => { results := [.lit (.bool true)], args := [d1, d2, d3, d4, d5, d6, d7, d8, d9, d10] }
  | _ => none }
def fnPointTreeRankCountsEntriesBelowRow : OpenClaim := { program := "qxb6604322a", sum := "cb8b6a25832727bb307b45ba2f3beaace91a9eb16bcb3e89f002665c55047ab2", func := "example.com/ringmark/ringmark/zzlaws_root_b1.FnPointTreeRankCountsEntriesBelow", spec := "fnPointTreeRankCountsEntriesBelow", apart := false }
def FnPointTreeRankCountsEntriesBelowSaid : Prop := fnPointTreeRankCountsEntriesBelowRow.holds Try.pinned (OpenSpec.ofChange fnPointTreeRankCountsEntriesBelowSpec)

/-- ITS FALSE NEIGHBOUR: 'it returns false'. Refute it at one input. -/
def fnPointTreeRankCountsEntriesBelowWrong : ChangeSpec := { name := "fnPointTreeRankCountsEntriesBelow", fn := fun _ => fun
  | [d1, d2, d3, d4, d5, d6, d7, d8, d9, d10] => { results := [.lit (.bool false)], args := [d1, d2, d3, d4, d5, d6, d7, d8, d9, d10] }
  | _ => none }
def FnPointTreeRankCountsEntriesBelowWrongFalsely : Prop := fnPointTreeRankCountsEntriesBelowRow.holds Try.pinned (OpenSpec.ofChange fnPointTreeRankCountsEntriesBelowWrong)

/-- 'zzlaws_root_b1.FnPointTreeRankOfEachEntryIsItsIndex': WHATEVER THE INPUT: true; the input reads as it did. -/
def fnPointTreeRankOfEachEntryIsItsIndexSpec : ChangeSpec := { name := "fnPointTreeRankOfEachEntryIsItsIndex", fn := fun _ => fun
  | [d1, d2, d3, d4, d5, d6, d7, d8, d9] => { results := [.lit (.bool true)], args := [d1, d2, d3, d4, d5, d6, d7, d8, d9] }
  | _ => none }
def fnPointTreeRankOfEachEntryIsItsIndexRow : OpenClaim := { program := "qxb6604322a", sum := "cb8b6a25832727bb307b45ba2f3beaace91a9eb16bcb3e89f002665c55047ab2", func := "example.com/ringmark/ringmark/zzlaws_root_b1.FnPointTreeRankOfEachEntryIsItsIndex", spec := "fnPointTreeRankOfEachEntryIsItsIndex", apart := false }
def FnPointTreeRankOfEachEntryIsItsIndexSaid : Prop := fnPointTreeRankOfEachEntryIsItsIndexRow.holds Try.pinned (OpenSpec.ofChange fnPointTreeRankOfEachEntryIsItsIndexSpec)

/-- ITS FALSE NEIGHBOUR: 'it returns false'. Refute it at one input. -/
def fnPointTreeRankOfEachEntryIsItsIndexWrong : ChangeSpec := { name := "fnPointTreeRankOfEachEntryIsItsIndex", fn := fun _ => fun
  | [d1, d2, d3, d4, d5, d6, d7, d8, d9] => { results := [.lit (.bool false)], args := [d1, d2, d3, d4, d5, d6, d7, d8, d9] }
  | _ => none }
def FnPointTreeRankOfEachEntryIsItsIndexWrongFalsely : Prop := fnPointTreeRankOfEachEntryIsItsIndexRow.holds Try.pinned (OpenSpec.ofChange fnPointTreeRankOfEachEntryIsItsIndexWrong)

/-- 'zzlaws_root_b1.FnRingDiffPositionAgainstModel': WHATEVER THE INPUT: true; the input reads as it did. -/
def fnRingDiffPositionAgainstModelSpec : ChangeSpec := { name := "fnRingDiffPositionAgainstModel", fn := fun _ => fun
  | [d1, d2, d3, d4, d5, d6, d7, d8, d9, d10, d11] => { results := [.lit (.bool true)], args := [d1, d2, d3, d4, d5, d6, d7, d8, d9, d10, d11] }
  | _ => none }
def fnRingDiffPositionAgainstModelRow : OpenClaim := { program := "qxb6604322a", sum := "cb8b6a25832727bb307b45ba2f3beaace91a9eb16bcb3e89f002665c55047ab2", func := "example.com/ringmark/ringmark/zzlaws_root_b1.FnRingDiffPositionAgainstModel", spec := "fnRingDiffPositionAgainstModel", apart := false }
def FnRingDiffPositionAgainstModelSaid : Prop := fnRingDiffPositionAgainstModelRow.holds Try.pinned (OpenSpec.ofChange fnRingDiffPositionAgainstModelSpec)

/-- ITS FALSE NEIGHBOUR: 'it returns false'. Refute it at one input. -/
def fnRingDiffPositionAgainstModelWrong : ChangeSpec := { name := "fnRingDiffPositionAgainstModel", fn := fun _ => fun
  | [d1, d2, d3, d4, d5, d6, d7, d8, d9, d10, d11] => { results := [.lit (.bool false)], args := [d1, d2, d3, d4, d5, d6, d7, d8, d9, d10, d11] }
  | _ => none }
def FnRingDiffPositionAgainstModelWrongFalsely : Prop := fnRingDiffPositionAgainstModelRow.holds Try.pinned (OpenSpec.ofChange fnRingDiffPositionAgainstModelWrong)

end Rows
end Go.Proofs.Qxb6604322a
