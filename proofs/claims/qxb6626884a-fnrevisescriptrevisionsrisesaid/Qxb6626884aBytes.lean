/-
  THE WALKS over the size tests: zzBytes_FnReviseExactAndSettled, zzb1Bytes: they return, whatever they return.
-/
import Derived.Test.Qxb6626884aRows
import Derived.WalkKit
import Derived.WalkSpells
import Derived.WalkLawsBesides
namespace Go.Proofs.Qxb6626884a
open Go.RowKit

/-- A PaneData's cells. -/
structure PD where
  st : Int
  re : Int
  seen : Bool
  s3 : ByteArray
  s4 : ByteArray
  s5 : ByteArray
  since : Int
  s7 : ByteArray
  s8 : ByteArray
  s9 : ByteArray
  s10 : ByteArray
  s11 : ByteArray
  s12 : ByteArray
  tf : Int
  s14 : ByteArray
  s15 : ByteArray
  s16 : ByteArray
  rev : Int

abbrev PD.v (d : PD) : Value := .agg #[.int .i64 d.st, .int .i64 d.re, .bool d.seen, .string d.s3, .string d.s4, .string d.s5, .int .i64 d.since, .string d.s7, .string d.s8, .string d.s9, .string d.s10, .string d.s11, .string d.s12, .int .i64 d.tf, .string d.s14, .string d.s15, .string d.s16, .int .i64 d.rev]

set_option maxRecDepth 100000 in
set_option maxHeartbeats 4000000 in
theorem bytes2_any (p q : PD) (a b : Int) (w : World) :
    Calls Try.prog 5 #[p.v, q.v, .int .i64 a, .int .i64 b] w fun e w' => (∃ r, e = .returned (.bool r)) ∧ Below w.heap.size w w' := by
  have bel : Below w.heap.size w ((w.alloc (.cells #[.int .i64 p.st, .int .i64 p.re, .bool p.seen, .string p.s3, .string p.s4, .string p.s5, .int .i64 p.since, .string p.s7, .string p.s8, .string p.s9, .string p.s10, .string p.s11, .string p.s12, .int .i64 p.tf, .string p.s14, .string p.s15, .string p.s16, .int .i64 p.rev] 23)).alloc (.cells #[.int .i64 q.st, .int .i64 q.re, .bool q.seen, .string q.s3, .string q.s4, .string q.s5, .int .i64 q.since, .string q.s7, .string q.s8, .string q.s9, .string q.s10, .string q.s11, .string q.s12, .int .i64 q.tf, .string q.s14, .string q.s15, .string q.s16, .int .i64 q.rev] 23)) := ((Below.refl _ _).alloc (Nat.le_refl _) _).alloc (by simp) _
  have B : Hid (Below w.heap.size w ((w.alloc (.cells #[.int .i64 p.st, .int .i64 p.re, .bool p.seen, .string p.s3, .string p.s4, .string p.s5, .int .i64 p.since, .string p.s7, .string p.s8, .string p.s9, .string p.s10, .string p.s11, .string p.s12, .int .i64 p.tf, .string p.s14, .string p.s15, .string p.s16, .int .i64 p.rev] 23)).alloc (.cells #[.int .i64 q.st, .int .i64 q.re, .bool q.seen, .string q.s3, .string q.s4, .string q.s5, .int .i64 q.since, .string q.s7, .string q.s8, .string q.s9, .string q.s10, .string q.s11, .string q.s12, .int .i64 q.tf, .string q.s14, .string q.s15, .string q.s16, .int .i64 q.rev] 23))) := bel
  clear bel
  go_enter Try.func5, Try.ntmps5
  go_wp2
  all_goals (go_ret; exact ⟨⟨_, rfl⟩, B.out⟩)
end Go.Proofs.Qxb6626884a
