/-
  No cell of these rows narrows 'for every input' (looked for: loops, veiled, ifaces, maps, wideKeys, modest, calm, conditions, laid).
  DERIVED. THE GIVEN ROWS OF THIS SEAT. 4 by the template 'for every input the law returns true; each argument reads behind the call as it read before'; 0 by the template 'total and deterministic' (their statements: Qxb6605790aTotals.lean).
  GIVEN WITH THE SEED: the statements are not yours to turn. If you find one false, say at which input.
  Laid BY PROGRAM, IN A SANDBOX (cutbox-rows.mjs): the forced cells as the released guide's own fill.sh prints them over the translation 20dbcf8228c6f6d9… (all of the seat's roots in one cut). By AI agents, Wed Nov 11 2026. No macro, syntax, notation, axiom, sorry.
-/
import Derived.Test.Qxb6605790aChecked
import GoSem.Claim
import GoSem.ClaimJoined
import GoSem.ClaimMapViews
import Derived.JoinedTies
import Derived.KernelRfl
namespace Go.Proofs.Qxb6605790a
/- THE CELL 'sum', in the pinned program and in every row, IS THE sha256 OF THE DUMP (.gsa) THAT Qxb6605790aProg.lean LOADS. Nothing in Lean hashes anything: it is a label: what it is worth is what the hold of that sum in a sandbox is worth. -/
noncomputable def Try.pinned : Pinned := { name := "qxb6605790a", sum := "20dbcf8228c6f6d9e6ca2b4027b0c61f1358e3a5886274062fc9e6143c63ea4f", checked := Try.checked }
namespace Rows
def none {H : Type} : Left H := { results := [], args := [] }

/-- 'zzlaws_internal_place_b1.FnNodeSetPutMakesIExactlyWhatInSays': WHATEVER THE INPUT: true; the input reads as it did. -/
def fnNodeSetPutMakesIExactlyWhatInSaysSpec : ChangeSpec := { name := "fnNodeSetPutMakesIExactlyWhatInSays", fn := fun _ => fun
  | [d1, d2, d3] => { results := [.lit (.bool true)], args := [d1, d2, d3] }
  | _ => none }
def fnNodeSetPutMakesIExactlyWhatInSaysRow : OpenClaim := { program := "qxb6605790a", sum := "20dbcf8228c6f6d9e6ca2b4027b0c61f1358e3a5886274062fc9e6143c63ea4f", func := "example.com/placewright/placewright/zzlaws_internal_place_b1.FnNodeSetPutMakesIExactlyWhatInSays", spec := "fnNodeSetPutMakesIExactlyWhatInSays", apart := false }
def FnNodeSetPutMakesIExactlyWhatInSaysSaid : Prop := fnNodeSetPutMakesIExactlyWhatInSaysRow.holds Try.pinned (OpenSpec.ofChange fnNodeSetPutMakesIExactlyWhatInSaysSpec)

/-- ITS FALSE NEIGHBOUR: 'it returns false'. Refute it at one input. -/
def fnNodeSetPutMakesIExactlyWhatInSaysWrong : ChangeSpec := { name := "fnNodeSetPutMakesIExactlyWhatInSays", fn := fun _ => fun
  | [d1, d2, d3] => { results := [.lit (.bool false)], args := [d1, d2, d3] }
  | _ => none }
def FnNodeSetPutMakesIExactlyWhatInSaysWrongFalsely : Prop := fnNodeSetPutMakesIExactlyWhatInSaysRow.holds Try.pinned (OpenSpec.ofChange fnNodeSetPutMakesIExactlyWhatInSaysWrong)

/-- 'zzlaws_internal_place_b1.FnNodeSetPutCountsIdempotentAndUndone': WHATEVER THE INPUT: true; the input reads as it did. -/
def fnNodeSetPutCountsIdempotentAndUndoneSpec : ChangeSpec := { name := "fnNodeSetPutCountsIdempotentAndUndone", fn := fun _ => fun
  | [d1, d2, d3] => { results := [.lit (.bool true)], args := [d1, d2, d3] }
  | _ => none }
def fnNodeSetPutCountsIdempotentAndUndoneRow : OpenClaim := { program := "qxb6605790a", sum := "20dbcf8228c6f6d9e6ca2b4027b0c61f1358e3a5886274062fc9e6143c63ea4f", func := "example.com/placewright/placewright/zzlaws_internal_place_b1.FnNodeSetPutCountsIdempotentAndUndone", spec := "fnNodeSetPutCountsIdempotentAndUndone", apart := false }
def FnNodeSetPutCountsIdempotentAndUndoneSaid : Prop := fnNodeSetPutCountsIdempotentAndUndoneRow.holds Try.pinned (OpenSpec.ofChange fnNodeSetPutCountsIdempotentAndUndoneSpec)

/-- ITS FALSE NEIGHBOUR: 'it returns false'. Refute it at one input. -/
def fnNodeSetPutCountsIdempotentAndUndoneWrong : ChangeSpec := { name := "fnNodeSetPutCountsIdempotentAndUndone", fn := fun _ => fun
  | [d1, d2, d3] => { results := [.lit (.bool false)], args := [d1, d2, d3] }
  | _ => none }
def FnNodeSetPutCountsIdempotentAndUndoneWrongFalsely : Prop := fnNodeSetPutCountsIdempotentAndUndoneRow.holds Try.pinned (OpenSpec.ofChange fnNodeSetPutCountsIdempotentAndUndoneWrong)

/-- 'zzlaws_internal_place_b1.FnRestWithinIsFirstRunWithinCPU': WHATEVER THE INPUT: true; the input reads as it did. -/
def fnRestWithinIsFirstRunWithinCPUSpec : ChangeSpec := { name := "fnRestWithinIsFirstRunWithinCPU", fn := fun _ => fun
  | [d1, d2] => { results := [.lit (.bool true)], args := [d1, d2] }
  | _ => none }
def fnRestWithinIsFirstRunWithinCPURow : OpenClaim := { program := "qxb6605790a", sum := "20dbcf8228c6f6d9e6ca2b4027b0c61f1358e3a5886274062fc9e6143c63ea4f", func := "example.com/placewright/placewright/zzlaws_internal_place_b1.FnRestWithinIsFirstRunWithinCPU", spec := "fnRestWithinIsFirstRunWithinCPU", unfollowed := true, recurses := true, apart := false }
def FnRestWithinIsFirstRunWithinCPUSaid : Prop := fnRestWithinIsFirstRunWithinCPURow.holds Try.pinned (OpenSpec.ofChange fnRestWithinIsFirstRunWithinCPUSpec)

/-- ITS FALSE NEIGHBOUR: 'it returns false'. Refute it at one input. -/
def fnRestWithinIsFirstRunWithinCPUWrong : ChangeSpec := { name := "fnRestWithinIsFirstRunWithinCPU", fn := fun _ => fun
  | [d1, d2] => { results := [.lit (.bool false)], args := [d1, d2] }
  | _ => none }
def FnRestWithinIsFirstRunWithinCPUWrongFalsely : Prop := fnRestWithinIsFirstRunWithinCPURow.holds Try.pinned (OpenSpec.ofChange fnRestWithinIsFirstRunWithinCPUWrong)

/-- 'zzlaws_internal_place_b1.FnRestWithinCountsRunsAboveCPU': WHATEVER THE INPUT: true; the input reads as it did. -/
def fnRestWithinCountsRunsAboveCPUSpec : ChangeSpec := { name := "fnRestWithinCountsRunsAboveCPU", fn := fun _ => fun
  | [d1, d2, d3] => { results := [.lit (.bool true)], args := [d1, d2, d3] }
  | _ => none }
def fnRestWithinCountsRunsAboveCPURow : OpenClaim := { program := "qxb6605790a", sum := "20dbcf8228c6f6d9e6ca2b4027b0c61f1358e3a5886274062fc9e6143c63ea4f", func := "example.com/placewright/placewright/zzlaws_internal_place_b1.FnRestWithinCountsRunsAboveCPU", spec := "fnRestWithinCountsRunsAboveCPU", unfollowed := true, recurses := true, apart := false }
def FnRestWithinCountsRunsAboveCPUSaid : Prop := fnRestWithinCountsRunsAboveCPURow.holds Try.pinned (OpenSpec.ofChange fnRestWithinCountsRunsAboveCPUSpec)

/-- ITS FALSE NEIGHBOUR: 'it returns false'. Refute it at one input. -/
def fnRestWithinCountsRunsAboveCPUWrong : ChangeSpec := { name := "fnRestWithinCountsRunsAboveCPU", fn := fun _ => fun
  | [d1, d2, d3] => { results := [.lit (.bool false)], args := [d1, d2, d3] }
  | _ => none }
def FnRestWithinCountsRunsAboveCPUWrongFalsely : Prop := fnRestWithinCountsRunsAboveCPURow.holds Try.pinned (OpenSpec.ofChange fnRestWithinCountsRunsAboveCPUWrong)

end Rows
end Go.Proofs.Qxb6605790a
