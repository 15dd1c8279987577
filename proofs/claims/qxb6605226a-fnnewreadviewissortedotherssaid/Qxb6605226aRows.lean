/-
  No cell of these rows narrows 'for every input' (looked for: loops, veiled, ifaces, maps, wideKeys, modest, calm, conditions, laid).
  DERIVED. THE GIVEN ROWS OF THIS SEAT. 3 by the template 'for every input the law returns true; each argument reads behind the call as it read before'; 0 by the template 'total and deterministic' (their statements: Qxb6605226aTotals.lean).
  GIVEN WITH THE SEED: the statements are not yours to turn. If you find one false, say at which input.
  Laid BY PROGRAM, IN A SANDBOX (cutbox-rows.mjs): the forced cells as the released guide's own fill.sh prints them over the translation 55a309a486df9a1b… (all of the seat's roots in one cut). By AI agents, Wed Nov 11 2026. No macro, syntax, notation, axiom, sorry.
-/
import Derived.Test.Qxb6605226aChecked
import GoSem.Claim
import GoSem.ClaimJoined
import GoSem.ClaimMapViews
import Derived.JoinedTies
import Derived.KernelRfl
namespace Go.Proofs.Qxb6605226a
/- THE CELL 'sum', in the pinned program and in every row, IS THE sha256 OF THE DUMP (.gsa) THAT Qxb6605226aProg.lean LOADS. Nothing in Lean hashes anything: it is a label: what it is worth is what the hold of that sum in a sandbox is worth. -/
noncomputable def Try.pinned : Pinned := { name := "qxb6605226a", sum := "55a309a486df9a1b41952ba14935fcbbf23eca3465ed7c41797a7d21eb6a7004", checked := Try.checked }
namespace Rows
def none {H : Type} : Left H := { results := [], args := [] }

/-- 'zzlaws_internal_engine_b1.FnJudgeSeesExactlyOwnAndEndedWriters': WHATEVER THE INPUT: true; the input reads as it did. -/
def fnJudgeSeesExactlyOwnAndEndedWritersSpec : ChangeSpec := { name := "fnJudgeSeesExactlyOwnAndEndedWriters", fn := fun _ => fun
  | [d1, d2, d3, d4] => { results := [.lit (.bool true)], args := [d1, d2, d3, d4] }
  | _ => none }
def fnJudgeSeesExactlyOwnAndEndedWritersRow : OpenClaim := { program := "qxb6605226a", sum := "55a309a486df9a1b41952ba14935fcbbf23eca3465ed7c41797a7d21eb6a7004", func := "example.com/rollmark/rollmark/zzlaws_internal_engine_b1.FnJudgeSeesExactlyOwnAndEndedWriters", spec := "fnJudgeSeesExactlyOwnAndEndedWriters", unfollowed := true, recurses := true, apart := false }
def FnJudgeSeesExactlyOwnAndEndedWritersSaid : Prop := fnJudgeSeesExactlyOwnAndEndedWritersRow.holds Try.pinned (OpenSpec.ofChange fnJudgeSeesExactlyOwnAndEndedWritersSpec)

/-- ITS FALSE NEIGHBOUR: 'it returns false'. Refute it at one input. -/
def fnJudgeSeesExactlyOwnAndEndedWritersWrong : ChangeSpec := { name := "fnJudgeSeesExactlyOwnAndEndedWriters", fn := fun _ => fun
  | [d1, d2, d3, d4] => { results := [.lit (.bool false)], args := [d1, d2, d3, d4] }
  | _ => none }
def FnJudgeSeesExactlyOwnAndEndedWritersWrongFalsely : Prop := fnJudgeSeesExactlyOwnAndEndedWritersRow.holds Try.pinned (OpenSpec.ofChange fnJudgeSeesExactlyOwnAndEndedWritersWrong)

/-- 'zzlaws_internal_engine_b1.FnNewReadViewIsSortedOthers': WHATEVER THE INPUT: true; the input reads as it did. -/
def fnNewReadViewIsSortedOthersSpec : ChangeSpec := { name := "fnNewReadViewIsSortedOthers", fn := fun _ => fun
  | [d1, d2, d3] => { results := [.lit (.bool true)], args := [d1, d2, d3] }
  | _ => none }
def fnNewReadViewIsSortedOthersRow : OpenClaim := { program := "qxb6605226a", sum := "55a309a486df9a1b41952ba14935fcbbf23eca3465ed7c41797a7d21eb6a7004", func := "example.com/rollmark/rollmark/zzlaws_internal_engine_b1.FnNewReadViewIsSortedOthers", spec := "fnNewReadViewIsSortedOthers", unfollowed := true, recurses := true, apart := false }
def FnNewReadViewIsSortedOthersSaid : Prop := fnNewReadViewIsSortedOthersRow.holds Try.pinned (OpenSpec.ofChange fnNewReadViewIsSortedOthersSpec)

/-- ITS FALSE NEIGHBOUR: 'it returns false'. Refute it at one input. -/
def fnNewReadViewIsSortedOthersWrong : ChangeSpec := { name := "fnNewReadViewIsSortedOthers", fn := fun _ => fun
  | [d1, d2, d3] => { results := [.lit (.bool false)], args := [d1, d2, d3] }
  | _ => none }
def FnNewReadViewIsSortedOthersWrongFalsely : Prop := fnNewReadViewIsSortedOthersRow.holds Try.pinned (OpenSpec.ofChange fnNewReadViewIsSortedOthersWrong)

/-- 'zzlaws_internal_engine_b1.FnNewReadViewIgnoresOrderAndOwn': WHATEVER THE INPUT: true; the input reads as it did. -/
def fnNewReadViewIgnoresOrderAndOwnSpec : ChangeSpec := { name := "fnNewReadViewIgnoresOrderAndOwn", fn := fun _ => fun
  | [d1, d2, d3] => { results := [.lit (.bool true)], args := [d1, d2, d3] }
  | _ => none }
def fnNewReadViewIgnoresOrderAndOwnRow : OpenClaim := { program := "qxb6605226a", sum := "55a309a486df9a1b41952ba14935fcbbf23eca3465ed7c41797a7d21eb6a7004", func := "example.com/rollmark/rollmark/zzlaws_internal_engine_b1.FnNewReadViewIgnoresOrderAndOwn", spec := "fnNewReadViewIgnoresOrderAndOwn", unfollowed := true, recurses := true, apart := false }
def FnNewReadViewIgnoresOrderAndOwnSaid : Prop := fnNewReadViewIgnoresOrderAndOwnRow.holds Try.pinned (OpenSpec.ofChange fnNewReadViewIgnoresOrderAndOwnSpec)

/-- ITS FALSE NEIGHBOUR: 'it returns false'. Refute it at one input. -/
def fnNewReadViewIgnoresOrderAndOwnWrong : ChangeSpec := { name := "fnNewReadViewIgnoresOrderAndOwn", fn := fun _ => fun
  | [d1, d2, d3] => { results := [.lit (.bool false)], args := [d1, d2, d3] }
  | _ => none }
def FnNewReadViewIgnoresOrderAndOwnWrongFalsely : Prop := fnNewReadViewIgnoresOrderAndOwnRow.holds Try.pinned (OpenSpec.ofChange fnNewReadViewIgnoresOrderAndOwnWrong)

end Rows
end Go.Proofs.Qxb6605226a
