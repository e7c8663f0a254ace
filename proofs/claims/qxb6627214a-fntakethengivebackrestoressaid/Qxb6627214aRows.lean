/-
  No cell of these rows narrows 'for every input' (looked for: loops, veiled, ifaces, maps, wideKeys, modest, calm, conditions, laid).
  DERIVED. THE GIVEN ROWS OF THIS SEAT. 2 by the template 'for every input the law returns true; each argument reads behind the call as it read before'; 0 by the template 'total and deterministic' (their statements: Qxb6627214aTotals.lean).
  GIVEN WITH THE SEED: the statements are not yours to turn. If you find one false, say at which input.
  Laid BY PROGRAM, IN A SANDBOX (cutbox-rows.mjs): the forced cells as the released guide's own fill.sh prints them over the translation fcfaa5366536bbe0… (all of the seat's roots in one cut). By AI agents, Wed Nov 11 2026. No macro, syntax, notation, axiom, sorry.
-/
import Derived.Test.Qxb6627214aChecked
import GoSem.Claim
import GoSem.ClaimJoined
import GoSem.ClaimMapViews
import Derived.JoinedTies
import Derived.KernelRfl
namespace Go.Proofs.Qxb6627214a
/- THE CELL 'sum', in the pinned program and in every row, IS THE sha256 OF THE DUMP (.gsa) THAT Qxb6627214aProg.lean LOADS. Nothing in Lean hashes anything: it is a label: what it is worth is what the hold of that sum in a sandbox is worth. -/
noncomputable def Try.pinned : Pinned := { name := "qxb6627214a", sum := "fcfaa5366536bbe0fc8b84f745e6fa3e3dad2812db11eaddc805025f614325bf", checked := Try.checked }
namespace Rows
def none {H : Type} : Left H := { results := [], args := [] }

/-- 'zzlaws_internal_memory_b1.FnTakeInTwoStepsAgreesWithTakeOfSum': WHATEVER THE INPUT: true; the input reads as it did. -/
def fnTakeInTwoStepsAgreesWithTakeOfSumSpec : ChangeSpec := { name := "fnTakeInTwoStepsAgreesWithTakeOfSum", fn := fun _ => fun
  | [d1, d2, d3, d4] => { results := [.lit (.bool true)], args := [d1, d2, d3, d4] }
  | _ => none }
def fnTakeInTwoStepsAgreesWithTakeOfSumRow : OpenClaim := { program := "qxb6627214a", sum := "fcfaa5366536bbe0fc8b84f745e6fa3e3dad2812db11eaddc805025f614325bf", func := "example.com/knotloom/knotloom/zzlaws_internal_memory_b1.FnTakeInTwoStepsAgreesWithTakeOfSum", spec := "fnTakeInTwoStepsAgreesWithTakeOfSum", apart := false }
def FnTakeInTwoStepsAgreesWithTakeOfSumSaid : Prop := fnTakeInTwoStepsAgreesWithTakeOfSumRow.holds Try.pinned (OpenSpec.ofChange fnTakeInTwoStepsAgreesWithTakeOfSumSpec)

/-- ITS FALSE NEIGHBOUR: 'it returns false'. Refute it at one input. -/
def fnTakeInTwoStepsAgreesWithTakeOfSumWrong : ChangeSpec := { name := "fnTakeInTwoStepsAgreesWithTakeOfSum", fn := fun _ => fun
  | [d1, d2, d3, d4] => { results := [.lit (.bool false)], args := [d1, d2, d3, d4] }
  | _ => none }
def FnTakeInTwoStepsAgreesWithTakeOfSumWrongFalsely : Prop := fnTakeInTwoStepsAgreesWithTakeOfSumRow.holds Try.pinned (OpenSpec.ofChange fnTakeInTwoStepsAgreesWithTakeOfSumWrong)

/-- 'zzlaws_internal_memory_b1.FnTakeThenGiveBackRestores': WHATEVER THE INPUT: true; the input reads as it did. -/
def fnTakeThenGiveBackRestoresSpec : ChangeSpec := { name := "fnTakeThenGiveBackRestores", fn := fun _ => fun
  | [d1, d2, d3, d4] => { results := [.lit (.bool true)], args := [d1, d2, d3, d4] }
  | _ => none }
def fnTakeThenGiveBackRestoresRow : OpenClaim := { program := "qxb6627214a", sum := "fcfaa5366536bbe0fc8b84f745e6fa3e3dad2812db11eaddc805025f614325bf", func := "example.com/knotloom/knotloom/zzlaws_internal_memory_b1.FnTakeThenGiveBackRestores", spec := "fnTakeThenGiveBackRestores", apart := false }
def FnTakeThenGiveBackRestoresSaid : Prop := fnTakeThenGiveBackRestoresRow.holds Try.pinned (OpenSpec.ofChange fnTakeThenGiveBackRestoresSpec)

/-- ITS FALSE NEIGHBOUR: 'it returns false'. Refute it at one input. -/
def fnTakeThenGiveBackRestoresWrong : ChangeSpec := { name := "fnTakeThenGiveBackRestores", fn := fun _ => fun
  | [d1, d2, d3, d4] => { results := [.lit (.bool false)], args := [d1, d2, d3, d4] }
  | _ => none }
def FnTakeThenGiveBackRestoresWrongFalsely : Prop := fnTakeThenGiveBackRestoresRow.holds Try.pinned (OpenSpec.ofChange fnTakeThenGiveBackRestoresWrong)

end Rows
end Go.Proofs.Qxb6627214a
