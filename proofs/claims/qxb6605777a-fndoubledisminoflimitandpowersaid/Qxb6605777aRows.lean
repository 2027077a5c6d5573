/-
  No cell of these rows narrows 'for every input' (looked for: loops, veiled, ifaces, maps, wideKeys, modest, calm, conditions, laid).
  DERIVED. THE GIVEN ROWS OF THIS SEAT. 2 by the template 'for every input the law returns true; each argument reads behind the call as it read before'; 0 by the template 'total and deterministic' (their statements: Qxb6605777aTotals.lean).
  GIVEN WITH THE SEED: the statements are not yours to turn. If you find one false, say at which input.
  Laid BY PROGRAM, IN A SANDBOX (cutbox-rows.mjs): the forced cells as the released guide's own fill.sh prints them over the translation e0fa6e66c602405b… (all of the seat's roots in one cut). By AI agents, Wed Nov 11 2026. No macro, syntax, notation, axiom, sorry.
-/
import Derived.Test.Qxb6605777aChecked
import GoSem.Claim
import GoSem.ClaimJoined
import GoSem.ClaimMapViews
import Derived.JoinedTies
import Derived.KernelRfl
namespace Go.Proofs.Qxb6605777a
/- THE CELL 'sum', in the pinned program and in every row, IS THE sha256 OF THE DUMP (.gsa) THAT Qxb6605777aProg.lean LOADS. Nothing in Lean hashes anything: it is a label: what it is worth is what the hold of that sum in a sandbox is worth. -/
noncomputable def Try.pinned : Pinned := { name := "qxb6605777a", sum := "e0fa6e66c602405bc4cd5a8ed09779682865372e1d153d7a557e7d89f491ef46", checked := Try.checked }
namespace Rows
def none {H : Type} : Left H := { results := [], args := [] }

/-- 'zzlaws_root_b1.FnDoubledIsMinOfLimitAndPower': WHATEVER THE INPUT: true; the input reads as it did. -/
def fnDoubledIsMinOfLimitAndPowerSpec : ChangeSpec := { name := "fnDoubledIsMinOfLimitAndPower", fn := fun _ => fun
  | [d1, d2, d3] => { results := [.lit (.bool true)], args := [d1, d2, d3] }
  | _ => none }
def fnDoubledIsMinOfLimitAndPowerRow : OpenClaim := { program := "qxb6605777a", sum := "e0fa6e66c602405bc4cd5a8ed09779682865372e1d153d7a557e7d89f491ef46", func := "example.com/recede/recede/zzlaws_root_b1.FnDoubledIsMinOfLimitAndPower", spec := "fnDoubledIsMinOfLimitAndPower", apart := false }
def FnDoubledIsMinOfLimitAndPowerSaid : Prop := fnDoubledIsMinOfLimitAndPowerRow.holds Try.pinned (OpenSpec.ofChange fnDoubledIsMinOfLimitAndPowerSpec)

/-- ITS FALSE NEIGHBOUR: 'it returns false'. Refute it at one input. -/
def fnDoubledIsMinOfLimitAndPowerWrong : ChangeSpec := { name := "fnDoubledIsMinOfLimitAndPower", fn := fun _ => fun
  | [d1, d2, d3] => { results := [.lit (.bool false)], args := [d1, d2, d3] }
  | _ => none }
def FnDoubledIsMinOfLimitAndPowerWrongFalsely : Prop := fnDoubledIsMinOfLimitAndPowerRow.holds Try.pinned (OpenSpec.ofChange fnDoubledIsMinOfLimitAndPowerWrong)

/-- 'zzlaws_root_b1.FnDoubledStepsByDoubling': WHATEVER THE INPUT: true; the input reads as it did. -/
def fnDoubledStepsByDoublingSpec : ChangeSpec := { name := "fnDoubledStepsByDoubling", fn := fun _ => fun
  | [d1, d2, d3] => { results := [.lit (.bool true)], args := [d1, d2, d3] }
  | _ => none }
def fnDoubledStepsByDoublingRow : OpenClaim := { program := "qxb6605777a", sum := "e0fa6e66c602405bc4cd5a8ed09779682865372e1d153d7a557e7d89f491ef46", func := "example.com/recede/recede/zzlaws_root_b1.FnDoubledStepsByDoubling", spec := "fnDoubledStepsByDoubling", apart := false }
def FnDoubledStepsByDoublingSaid : Prop := fnDoubledStepsByDoublingRow.holds Try.pinned (OpenSpec.ofChange fnDoubledStepsByDoublingSpec)

/-- ITS FALSE NEIGHBOUR: 'it returns false'. Refute it at one input. -/
def fnDoubledStepsByDoublingWrong : ChangeSpec := { name := "fnDoubledStepsByDoubling", fn := fun _ => fun
  | [d1, d2, d3] => { results := [.lit (.bool false)], args := [d1, d2, d3] }
  | _ => none }
def FnDoubledStepsByDoublingWrongFalsely : Prop := fnDoubledStepsByDoublingRow.holds Try.pinned (OpenSpec.ofChange fnDoubledStepsByDoublingWrong)

end Rows
end Go.Proofs.Qxb6605777a
