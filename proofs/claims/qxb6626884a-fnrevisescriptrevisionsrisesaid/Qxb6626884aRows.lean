/-
  No cell of these rows narrows 'for every input' (looked for: loops, veiled, ifaces, maps, wideKeys, modest, calm, conditions, laid).
  DERIVED. THE GIVEN ROWS OF THIS SEAT. 2 by the template 'for every input the law returns true; each argument reads behind the call as it read before'; 0 by the template 'total and deterministic' (their statements: Qxb6626884aTotals.lean).
  GIVEN WITH THE SEED: the statements are not yours to turn. If you find one false, say at which input.
  Laid BY PROGRAM, IN A SANDBOX (cutbox-rows.mjs): the forced cells as the released guide's own fill.sh prints them over the translation 3b2cf4d882eb4425… (all of the seat's roots in one cut). By AI agents, Wed Nov 11 2026. No macro, syntax, notation, axiom, sorry.
-/
import Derived.Test.Qxb6626884aChecked
import GoSem.Claim
import GoSem.ClaimJoined
import GoSem.ClaimMapViews
import Derived.JoinedTies
import Derived.KernelRfl
namespace Go.Proofs.Qxb6626884a
/- THE CELL 'sum', in the pinned program and in every row, IS THE sha256 OF THE DUMP (.gsa) THAT Qxb6626884aProg.lean LOADS. Nothing in Lean hashes anything: it is a label: what it is worth is what the hold of that sum in a sandbox is worth. -/
noncomputable def Try.pinned : Pinned := { name := "qxb6626884a", sum := "3b2cf4d882eb4425e37dbbe8798c6979ce020f1c7de6a3a85c433571cb31f82e", checked := Try.checked }
namespace Rows
def none {H : Type} : Left H := { results := [], args := [] }

/-- 'zzlaws_pkg_state_b1.FnReviseExactAndSettled': WHATEVER THE INPUT: true; the input reads as it did. -/
def fnReviseExactAndSettledSpec : ChangeSpec := { name := "fnReviseExactAndSettled", fn := fun _ => fun
  | [d1, d2, d3, d4] => { results := [.lit (.bool true)], args := [d1, d2, d3, d4] }
  | _ => none }
def fnReviseExactAndSettledRow : OpenClaim := { program := "qxb6626884a", sum := "3b2cf4d882eb4425e37dbbe8798c6979ce020f1c7de6a3a85c433571cb31f82e", func := "example.com/panelight/panelight/zzlaws_pkg_state_b1.FnReviseExactAndSettled", spec := "fnReviseExactAndSettled", apart := false }
def FnReviseExactAndSettledSaid : Prop := fnReviseExactAndSettledRow.holds Try.pinned (OpenSpec.ofChange fnReviseExactAndSettledSpec)

/-- ITS FALSE NEIGHBOUR: 'it returns false'. Refute it at one input. -/
def fnReviseExactAndSettledWrong : ChangeSpec := { name := "fnReviseExactAndSettled", fn := fun _ => fun
  | [d1, d2, d3, d4] => { results := [.lit (.bool false)], args := [d1, d2, d3, d4] }
  | _ => none }
def FnReviseExactAndSettledWrongFalsely : Prop := fnReviseExactAndSettledRow.holds Try.pinned (OpenSpec.ofChange fnReviseExactAndSettledWrong)

/-- 'zzlaws_pkg_state_b1.FnReviseScriptRevisionsRise': WHATEVER THE INPUT: true; the input reads as it did. -/
def fnReviseScriptRevisionsRiseSpec : ChangeSpec := { name := "fnReviseScriptRevisionsRise", fn := fun _ => fun
  | [d1, d2] => { results := [.lit (.bool true)], args := [d1, d2] }
  | _ => none }
def fnReviseScriptRevisionsRiseRow : OpenClaim := { program := "qxb6626884a", sum := "3b2cf4d882eb4425e37dbbe8798c6979ce020f1c7de6a3a85c433571cb31f82e", func := "example.com/panelight/panelight/zzlaws_pkg_state_b1.FnReviseScriptRevisionsRise", spec := "fnReviseScriptRevisionsRise", apart := false }
def FnReviseScriptRevisionsRiseSaid : Prop := fnReviseScriptRevisionsRiseRow.holds Try.pinned (OpenSpec.ofChange fnReviseScriptRevisionsRiseSpec)

/-- ITS FALSE NEIGHBOUR: 'it returns false'. Refute it at one input. -/
def fnReviseScriptRevisionsRiseWrong : ChangeSpec := { name := "fnReviseScriptRevisionsRise", fn := fun _ => fun
  | [d1, d2] => { results := [.lit (.bool false)], args := [d1, d2] }
  | _ => none }
def FnReviseScriptRevisionsRiseWrongFalsely : Prop := fnReviseScriptRevisionsRiseRow.holds Try.pinned (OpenSpec.ofChange fnReviseScriptRevisionsRiseWrong)

end Rows
end Go.Proofs.Qxb6626884a
