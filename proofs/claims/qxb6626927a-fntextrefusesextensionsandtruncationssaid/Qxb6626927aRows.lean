/-
  No cell of these rows narrows 'for every input' (looked for: loops, veiled, ifaces, maps, wideKeys, modest, calm, conditions, laid).
  DERIVED. THE GIVEN ROWS OF THIS SEAT. 2 by the template 'for every input the law returns true; each argument reads behind the call as it read before'; 0 by the template 'total and deterministic' (their statements: Qxb6626927aTotals.lean).
  GIVEN WITH THE SEED: the statements are not yours to turn. If you find one false, say at which input.
  Laid BY PROGRAM, IN A SANDBOX (cutbox-rows.mjs): the forced cells as the released guide's own fill.sh prints them over the translation d17a8d8b625da262… (all of the seat's roots in one cut). By AI agents, Wed Nov 11 2026. No macro, syntax, notation, axiom, sorry.
-/
import Derived.Test.Qxb6626927aChecked
import GoSem.Claim
import GoSem.ClaimJoined
import GoSem.ClaimMapViews
import Derived.JoinedTies
import Derived.KernelRfl
namespace Go.Proofs.Qxb6626927a
/- THE CELL 'sum', in the pinned program and in every row, IS THE sha256 OF THE DUMP (.gsa) THAT Qxb6626927aProg.lean LOADS. Nothing in Lean hashes anything: it is a label: what it is worth is what the hold of that sum in a sandbox is worth. -/
noncomputable def Try.pinned : Pinned := { name := "qxb6626927a", sum := "d17a8d8b625da262df39ff90b3bb5ffea8095398b4c9776e906ce5e049d4b87e", checked := Try.checked }
namespace Rows
def none {H : Type} : Left H := { results := [], args := [] }

/-- 'zzlaws_root_b1.FnTextIsTheUniqueDecoding': WHATEVER THE INPUT: true; the input reads as it did. -/
def fnTextIsTheUniqueDecodingSpec : ChangeSpec := { name := "fnTextIsTheUniqueDecoding", fn := fun _ => fun
  | [d] => { results := [.lit (.bool true)], args := [d] }
  | _ => none }
def fnTextIsTheUniqueDecodingRow : OpenClaim := { program := "qxb6626927a", sum := "d17a8d8b625da262df39ff90b3bb5ffea8095398b4c9776e906ce5e049d4b87e", func := "example.com/gapwarden/gapwarden/zzlaws_root_b1.FnTextIsTheUniqueDecoding", spec := "fnTextIsTheUniqueDecoding", apart := false }
def FnTextIsTheUniqueDecodingSaid : Prop := fnTextIsTheUniqueDecodingRow.holds Try.pinned (OpenSpec.ofChange fnTextIsTheUniqueDecodingSpec)

/-- ITS FALSE NEIGHBOUR: 'it returns false'. Refute it at one input. -/
def fnTextIsTheUniqueDecodingWrong : ChangeSpec := { name := "fnTextIsTheUniqueDecoding", fn := fun _ => fun
  | [d] => { results := [.lit (.bool false)], args := [d] }
  | _ => none }
def FnTextIsTheUniqueDecodingWrongFalsely : Prop := fnTextIsTheUniqueDecodingRow.holds Try.pinned (OpenSpec.ofChange fnTextIsTheUniqueDecodingWrong)

/-- 'zzlaws_root_b1.FnTextRefusesExtensionsAndTruncations': WHATEVER THE INPUT: true; the input reads as it did. -/
def fnTextRefusesExtensionsAndTruncationsSpec : ChangeSpec := { name := "fnTextRefusesExtensionsAndTruncations", fn := fun _ => fun
  | [d1, d2, d3] => { results := [.lit (.bool true)], args := [d1, d2, d3] }
  | _ => none }
def fnTextRefusesExtensionsAndTruncationsRow : OpenClaim := { program := "qxb6626927a", sum := "d17a8d8b625da262df39ff90b3bb5ffea8095398b4c9776e906ce5e049d4b87e", func := "example.com/gapwarden/gapwarden/zzlaws_root_b1.FnTextRefusesExtensionsAndTruncations", spec := "fnTextRefusesExtensionsAndTruncations", apart := false }
def FnTextRefusesExtensionsAndTruncationsSaid : Prop := fnTextRefusesExtensionsAndTruncationsRow.holds Try.pinned (OpenSpec.ofChange fnTextRefusesExtensionsAndTruncationsSpec)

/-- ITS FALSE NEIGHBOUR: 'it returns false'. Refute it at one input. -/
def fnTextRefusesExtensionsAndTruncationsWrong : ChangeSpec := { name := "fnTextRefusesExtensionsAndTruncations", fn := fun _ => fun
  | [d1, d2, d3] => { results := [.lit (.bool false)], args := [d1, d2, d3] }
  | _ => none }
def FnTextRefusesExtensionsAndTruncationsWrongFalsely : Prop := fnTextRefusesExtensionsAndTruncationsRow.holds Try.pinned (OpenSpec.ofChange fnTextRefusesExtensionsAndTruncationsWrong)

end Rows
end Go.Proofs.Qxb6626927a
