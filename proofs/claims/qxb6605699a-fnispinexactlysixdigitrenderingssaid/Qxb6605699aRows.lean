/-
  No cell of these rows narrows 'for every input' (looked for: loops, veiled, ifaces, maps, wideKeys, modest, calm, conditions, laid).
  DERIVED. THE GIVEN ROWS OF THIS SEAT. 2 by the template 'for every input the law returns true; each argument reads behind the call as it read before'; 0 by the template 'total and deterministic' (their statements: Qxb6605699aTotals.lean).
  GIVEN WITH THE SEED: the statements are not yours to turn. If you find one false, say at which input.
  Laid BY PROGRAM, IN A SANDBOX (cutbox-rows.mjs): the forced cells as the released guide's own fill.sh prints them over the translation 67ec5507d8948aae… (all of the seat's roots in one cut). By AI agents, Wed Nov 11 2026. No macro, syntax, notation, axiom, sorry.
-/
import Derived.Test.Qxb6605699aChecked
import GoSem.Claim
import GoSem.ClaimJoined
import GoSem.ClaimMapViews
import Derived.JoinedTies
import Derived.KernelRfl
namespace Go.Proofs.Qxb6605699a
/- THE CELL 'sum', in the pinned program and in every row, IS THE sha256 OF THE DUMP (.gsa) THAT Qxb6605699aProg.lean LOADS. Nothing in Lean hashes anything: it is a label: what it is worth is what the hold of that sum in a sandbox is worth. -/
noncomputable def Try.pinned : Pinned := { name := "qxb6605699a", sum := "67ec5507d8948aae0e1deeeebdccae104bb1fc602559f55561049225eeb022d6", checked := Try.checked }
namespace Rows
def none {H : Type} : Left H := { results := [], args := [] }

/-- 'zzlaws_root_b1.FnIsPINExactlySixDigitRenderings': WHATEVER THE INPUT: true; the input reads as it did. -/
def fnIsPINExactlySixDigitRenderingsSpec : ChangeSpec := { name := "fnIsPINExactlySixDigitRenderings", fn := fun _ => fun
  | [d] => { results := [.lit (.bool true)], args := [d] }
  | _ => none }
def fnIsPINExactlySixDigitRenderingsRow : OpenClaim := { program := "qxb6605699a", sum := "67ec5507d8948aae0e1deeeebdccae104bb1fc602559f55561049225eeb022d6", func := "example.com/yuelao/yuelao/zzlaws_root_b1.FnIsPINExactlySixDigitRenderings", spec := "fnIsPINExactlySixDigitRenderings", apart := false }
def FnIsPINExactlySixDigitRenderingsSaid : Prop := fnIsPINExactlySixDigitRenderingsRow.holds Try.pinned (OpenSpec.ofChange fnIsPINExactlySixDigitRenderingsSpec)

/-- ITS FALSE NEIGHBOUR: 'it returns false'. Refute it at one input. -/
def fnIsPINExactlySixDigitRenderingsWrong : ChangeSpec := { name := "fnIsPINExactlySixDigitRenderings", fn := fun _ => fun
  | [d] => { results := [.lit (.bool false)], args := [d] }
  | _ => none }
def FnIsPINExactlySixDigitRenderingsWrongFalsely : Prop := fnIsPINExactlySixDigitRenderingsRow.holds Try.pinned (OpenSpec.ofChange fnIsPINExactlySixDigitRenderingsWrong)

/-- 'zzlaws_root_b1.FnIsPINAcceptsEveryPINAndNoNeighbour': WHATEVER THE INPUT: true; the input reads as it did. -/
def fnIsPINAcceptsEveryPINAndNoNeighbourSpec : ChangeSpec := { name := "fnIsPINAcceptsEveryPINAndNoNeighbour", fn := fun _ => fun
  | [d1, d2, d3, d4] => { results := [.lit (.bool true)], args := [d1, d2, d3, d4] }
  | _ => none }
def fnIsPINAcceptsEveryPINAndNoNeighbourRow : OpenClaim := { program := "qxb6605699a", sum := "67ec5507d8948aae0e1deeeebdccae104bb1fc602559f55561049225eeb022d6", func := "example.com/yuelao/yuelao/zzlaws_root_b1.FnIsPINAcceptsEveryPINAndNoNeighbour", spec := "fnIsPINAcceptsEveryPINAndNoNeighbour", apart := false }
def FnIsPINAcceptsEveryPINAndNoNeighbourSaid : Prop := fnIsPINAcceptsEveryPINAndNoNeighbourRow.holds Try.pinned (OpenSpec.ofChange fnIsPINAcceptsEveryPINAndNoNeighbourSpec)

/-- ITS FALSE NEIGHBOUR: 'it returns false'. Refute it at one input. -/
def fnIsPINAcceptsEveryPINAndNoNeighbourWrong : ChangeSpec := { name := "fnIsPINAcceptsEveryPINAndNoNeighbour", fn := fun _ => fun
  | [d1, d2, d3, d4] => { results := [.lit (.bool false)], args := [d1, d2, d3, d4] }
  | _ => none }
def FnIsPINAcceptsEveryPINAndNoNeighbourWrongFalsely : Prop := fnIsPINAcceptsEveryPINAndNoNeighbourRow.holds Try.pinned (OpenSpec.ofChange fnIsPINAcceptsEveryPINAndNoNeighbourWrong)

end Rows
end Go.Proofs.Qxb6605699a
