/-
  No cell of these rows narrows 'for every input' (looked for: loops, veiled, ifaces, maps, wideKeys, modest, calm, conditions, laid).
  DERIVED. THE GIVEN ROWS OF THIS SEAT. 2 by the template 'for every input the law returns true; each argument reads behind the call as it read before'; 0 by the template 'total and deterministic' (their statements: Qxb6625440aTotals.lean).
  GIVEN WITH THE SEED: the statements are not yours to turn. If you find one false, say at which input.
  Laid BY PROGRAM, IN A SANDBOX (cutbox-rows.mjs): the forced cells as the released guide's own fill.sh prints them over the translation b1601ef553f530bb… (all of the seat's roots in one cut). By AI agents, Wed Nov 11 2026. No macro, syntax, notation, axiom, sorry.
-/
import Derived.Test.Qxb6625440aChecked
import GoSem.Claim
import GoSem.ClaimJoined
import GoSem.ClaimMapViews
import Derived.JoinedTies
import Derived.KernelRfl
namespace Go.Proofs.Qxb6625440a
/- THE CELL 'sum', in the pinned program and in every row, IS THE sha256 OF THE DUMP (.gsa) THAT Qxb6625440aProg.lean LOADS. Nothing in Lean hashes anything: it is a label: what it is worth is what the hold of that sum in a sandbox is worth. -/
noncomputable def Try.pinned : Pinned := { name := "qxb6625440a", sum := "b1601ef553f530bbf8ec621167a955e610f979b97dfc9ffd9981d194d46fca54", checked := Try.checked }
namespace Rows
def none {H : Type} : Left H := { results := [], args := [] }

/-- 'zzlaws_internal_server_b1.FnUnfollowScriptLetsGoAtLast': WHATEVER THE INPUT: true; the input reads as it did. -/
def fnUnfollowScriptLetsGoAtLastSpec : ChangeSpec := { name := "fnUnfollowScriptLetsGoAtLast", fn := fun _ => fun
  | [d1, d2, d3, d4] => { results := [.lit (.bool true)], args := [d1, d2, d3, d4] }
  | _ => none }
def fnUnfollowScriptLetsGoAtLastRow : OpenClaim := { program := "qxb6625440a", sum := "b1601ef553f530bbf8ec621167a955e610f979b97dfc9ffd9981d194d46fca54", func := "example.com/muster/muster/zzlaws_internal_server_b1.FnUnfollowScriptLetsGoAtLast", spec := "fnUnfollowScriptLetsGoAtLast", inPlace := ["(*internal/sync.Mutex).Lock", "internal/race.Disable", "sync/atomic.CompareAndSwapInt32", "internal/race.Enable", "internal/race.Acquire", "(*internal/sync.Mutex).lockSlow", "internal/sync.runtime_canSpin", "internal/sync.runtime_doSpin", "internal/sync.throw", "internal/sync.runtime_nanotime", "internal/sync.runtime_SemacquireMutex", "sync/atomic.AddInt32", "(*internal/sync.Mutex).Unlock", "internal/race.ReleaseMerge", "(*internal/sync.Mutex).unlockSlow", "internal/sync.fatal", "internal/sync.runtime_Semrelease"], apart := false }
def FnUnfollowScriptLetsGoAtLastSaid : Prop := fnUnfollowScriptLetsGoAtLastRow.holds Try.pinned (OpenSpec.ofChange fnUnfollowScriptLetsGoAtLastSpec)

/-- ITS FALSE NEIGHBOUR: 'it returns false'. Refute it at one input. -/
def fnUnfollowScriptLetsGoAtLastWrong : ChangeSpec := { name := "fnUnfollowScriptLetsGoAtLast", fn := fun _ => fun
  | [d1, d2, d3, d4] => { results := [.lit (.bool false)], args := [d1, d2, d3, d4] }
  | _ => none }
def FnUnfollowScriptLetsGoAtLastWrongFalsely : Prop := fnUnfollowScriptLetsGoAtLastRow.holds Try.pinned (OpenSpec.ofChange fnUnfollowScriptLetsGoAtLastWrong)

/-- 'zzlaws_internal_server_b1.FnUnfollowKeepsTailWhileFollowed': WHATEVER THE INPUT: true; the input reads as it did. -/
def fnUnfollowKeepsTailWhileFollowedSpec : ChangeSpec := { name := "fnUnfollowKeepsTailWhileFollowed", fn := fun _ => fun
  | [d1, d2, d3, d4] => { results := [.lit (.bool true)], args := [d1, d2, d3, d4] }
  | _ => none }
def fnUnfollowKeepsTailWhileFollowedRow : OpenClaim := { program := "qxb6625440a", sum := "b1601ef553f530bbf8ec621167a955e610f979b97dfc9ffd9981d194d46fca54", func := "example.com/muster/muster/zzlaws_internal_server_b1.FnUnfollowKeepsTailWhileFollowed", spec := "fnUnfollowKeepsTailWhileFollowed", inPlace := ["(*internal/sync.Mutex).Lock", "internal/race.Disable", "sync/atomic.CompareAndSwapInt32", "internal/race.Enable", "internal/race.Acquire", "(*internal/sync.Mutex).lockSlow", "internal/sync.runtime_canSpin", "internal/sync.runtime_doSpin", "internal/sync.throw", "internal/sync.runtime_nanotime", "internal/sync.runtime_SemacquireMutex", "sync/atomic.AddInt32", "(*internal/sync.Mutex).Unlock", "internal/race.ReleaseMerge", "(*internal/sync.Mutex).unlockSlow", "internal/sync.fatal", "internal/sync.runtime_Semrelease"], apart := false }
def FnUnfollowKeepsTailWhileFollowedSaid : Prop := fnUnfollowKeepsTailWhileFollowedRow.holds Try.pinned (OpenSpec.ofChange fnUnfollowKeepsTailWhileFollowedSpec)

/-- ITS FALSE NEIGHBOUR: 'it returns false'. Refute it at one input. -/
def fnUnfollowKeepsTailWhileFollowedWrong : ChangeSpec := { name := "fnUnfollowKeepsTailWhileFollowed", fn := fun _ => fun
  | [d1, d2, d3, d4] => { results := [.lit (.bool false)], args := [d1, d2, d3, d4] }
  | _ => none }
def FnUnfollowKeepsTailWhileFollowedWrongFalsely : Prop := fnUnfollowKeepsTailWhileFollowedRow.holds Try.pinned (OpenSpec.ofChange fnUnfollowKeepsTailWhileFollowedWrong)

end Rows
end Go.Proofs.Qxb6625440a
