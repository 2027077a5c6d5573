/-
  No cell of these rows narrows 'for every input' (looked for: loops, veiled, ifaces, maps, wideKeys, modest, calm, conditions, laid).
  DERIVED. THE GIVEN ROWS OF THIS SEAT. 2 by the template 'for every input the law returns true; each argument reads behind the call as it read before'; 0 by the template 'total and deterministic' (their statements: Qxb6605835aTotals.lean).
  GIVEN WITH THE SEED: the statements are not yours to turn. If you find one false, say at which input.
  Laid BY PROGRAM, IN A SANDBOX (cutbox-rows.mjs): the forced cells as the released guide's own fill.sh prints them over the translation 2b5a7b64022f7cf3… (all of the seat's roots in one cut). By AI agents, Wed Nov 11 2026. No macro, syntax, notation, axiom, sorry.
-/
import Derived.Test.Qxb6605835aChecked
import GoSem.Claim
import GoSem.ClaimJoined
import GoSem.ClaimMapViews
import Derived.JoinedTies
import Derived.KernelRfl
namespace Go.Proofs.Qxb6605835a
/- THE CELL 'sum', in the pinned program and in every row, IS THE sha256 OF THE DUMP (.gsa) THAT Qxb6605835aProg.lean LOADS. Nothing in Lean hashes anything: it is a label: what it is worth is what the hold of that sum in a sandbox is worth. -/
noncomputable def Try.pinned : Pinned := { name := "qxb6605835a", sum := "2b5a7b64022f7cf3ff903ae84bcf419a634ebfbf1efe2b94cb09c3200a81677b", checked := Try.checked }
namespace Rows
def none {H : Type} : Left H := { results := [], args := [] }

/-- 'zzlaws_versioning_b1.FnStepPassesPaintOnAndKeepsTheBooks': WHATEVER THE INPUT: true; the input reads as it did. -/
def fnStepPassesPaintOnAndKeepsTheBooksSpec : ChangeSpec := { name := "fnStepPassesPaintOnAndKeepsTheBooks", fn := fun _ => fun
  | [d1, d2, d3] => { results := [.lit (.bool true)], args := [d1, d2, d3] }
  | _ => none }
def fnStepPassesPaintOnAndKeepsTheBooksRow : OpenClaim := { program := "qxb6605835a", sum := "2b5a7b64022f7cf3ff903ae84bcf419a634ebfbf1efe2b94cb09c3200a81677b", func := "example.com/deep-bucket/deep-bucket/zzlaws_versioning_b1.FnStepPassesPaintOnAndKeepsTheBooks", spec := "fnStepPassesPaintOnAndKeepsTheBooks", unfollowed := true, recurses := true, apart := false }
def FnStepPassesPaintOnAndKeepsTheBooksSaid : Prop := fnStepPassesPaintOnAndKeepsTheBooksRow.holds Try.pinned (OpenSpec.ofChange fnStepPassesPaintOnAndKeepsTheBooksSpec)

/-- ITS FALSE NEIGHBOUR: 'it returns false'. Refute it at one input. -/
def fnStepPassesPaintOnAndKeepsTheBooksWrong : ChangeSpec := { name := "fnStepPassesPaintOnAndKeepsTheBooks", fn := fun _ => fun
  | [d1, d2, d3] => { results := [.lit (.bool false)], args := [d1, d2, d3] }
  | _ => none }
def FnStepPassesPaintOnAndKeepsTheBooksWrongFalsely : Prop := fnStepPassesPaintOnAndKeepsTheBooksRow.holds Try.pinned (OpenSpec.ofChange fnStepPassesPaintOnAndKeepsTheBooksWrong)

/-- 'zzlaws_versioning_b1.FnStepTakesLatestFirstInAGradedHistory': WHATEVER THE INPUT: true; the input reads as it did. -/
def fnStepTakesLatestFirstInAGradedHistorySpec : ChangeSpec := { name := "fnStepTakesLatestFirstInAGradedHistory", fn := fun _ => fun
  | [d1, d2, d3] => { results := [.lit (.bool true)], args := [d1, d2, d3] }
  | _ => none }
def fnStepTakesLatestFirstInAGradedHistoryRow : OpenClaim := { program := "qxb6605835a", sum := "2b5a7b64022f7cf3ff903ae84bcf419a634ebfbf1efe2b94cb09c3200a81677b", func := "example.com/deep-bucket/deep-bucket/zzlaws_versioning_b1.FnStepTakesLatestFirstInAGradedHistory", spec := "fnStepTakesLatestFirstInAGradedHistory", unfollowed := true, recurses := true, apart := false }
def FnStepTakesLatestFirstInAGradedHistorySaid : Prop := fnStepTakesLatestFirstInAGradedHistoryRow.holds Try.pinned (OpenSpec.ofChange fnStepTakesLatestFirstInAGradedHistorySpec)

/-- ITS FALSE NEIGHBOUR: 'it returns false'. Refute it at one input. -/
def fnStepTakesLatestFirstInAGradedHistoryWrong : ChangeSpec := { name := "fnStepTakesLatestFirstInAGradedHistory", fn := fun _ => fun
  | [d1, d2, d3] => { results := [.lit (.bool false)], args := [d1, d2, d3] }
  | _ => none }
def FnStepTakesLatestFirstInAGradedHistoryWrongFalsely : Prop := fnStepTakesLatestFirstInAGradedHistoryRow.holds Try.pinned (OpenSpec.ofChange fnStepTakesLatestFirstInAGradedHistoryWrong)

end Rows
end Go.Proofs.Qxb6605835a
