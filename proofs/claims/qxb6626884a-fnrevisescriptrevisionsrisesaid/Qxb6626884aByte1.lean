/-
  THE WALK over zzb1Bytes: it returns.
-/
import Derived.Test.Qxb6626884aBytes
namespace Go.Proofs.Qxb6626884a
open Go.RowKit

set_option maxRecDepth 100000 in
set_option maxHeartbeats 1000000 in
theorem bytes1_any (p : PD) (w : World) :
    Calls Try.prog 6 #[p.v] w fun e w' => (∃ n, e = .returned (.int .i64 n)) ∧ Below w.heap.size w w' := by
  have B : Hid (Below w.heap.size w (w.alloc (.cells #[.int .i64 p.st, .int .i64 p.re, .bool p.seen, .string p.s3, .string p.s4, .string p.s5, .int .i64 p.since, .string p.s7, .string p.s8, .string p.s9, .string p.s10, .string p.s11, .string p.s12, .int .i64 p.tf, .string p.s14, .string p.s15, .string p.s16, .int .i64 p.rev] 23))) := (Below.refl _ _).alloc (Nat.le_refl _) _
  go_enter Try.func6, Try.ntmps6
  go_wp2
  all_goals (go_ret; exact ⟨⟨_, rfl⟩, B.out⟩)
end Go.Proofs.Qxb6626884a
