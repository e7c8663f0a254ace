/-
  THE WALKS over ZZnewAllowance, ZZtake (with Take in place), ZZused.
-/
import Derived.Test.Qxb6627214aRows
import Derived.WalkKit
import Derived.WalkSpells
import Derived.WalkLawsBesides
import Derived.Deep.QuietTactic
import Derived.BigQuiet
namespace Go.Proofs.Qxb6627214a
open Go.RowKit

set_option maxHeartbeats 400000 in
theorem new_any (size used : Int) (w : World) :
    Calls Try.prog 5 #[.int .i64 size, .int .i64 used] w fun e w' => e = .returned (.pointer (some ⟨w.heap.size, 0, none⟩)) ∧ w' = w.alloc (.cells #[.int .i64 size, .int .i64 used] 30) := by
  go_enter Try.func5, Try.ntmps5
  go_wp2
  go_ret
  exact ⟨rfl, rfl⟩
set_option maxHeartbeats 400000 in
theorem used_any (b : Nat) (used : Int) (w : World) (hc : w.cell? ⟨b, 1, none⟩ = some (.int .i64 used)) :
    Calls Try.prog 7 #[.pointer (some ⟨b, 0, none⟩)] w fun e w' => e = .returned (.int .i64 used) ∧ w' = w := by
  go_enter Try.func7, Try.ntmps7
  go_wp2
  go_ret
  exact ⟨rfl, rfl⟩
/-- The allowance at block b: its size, what it holds; it may be written. -/
structure Al (w : World) (b : Nat) (size used : Int) : Prop where
  c0 : w.cell? ⟨b, 0, none⟩ = some (.int .i64 size)
  c1 : w.cell? ⟨b, 1, none⟩ = some (.int .i64 used)
  f1 : w.frozen? ⟨b, 1, none⟩ = false
theorem Al.new (w : World) (size used : Int) : Al (w.alloc (.cells #[.int .i64 size, .int .i64 used] 30)) w.heap.size size used := by
  constructor <;> simp [go_sem]
theorem Al.below {w w' : World} {b B : Nat} {size used : Int} (h : Al w b size used) (hb : Below B w w') (hB : b < B) : Al w' b size used :=
  ⟨(hb.cell hB).trans h.c0, (hb.cell hB).trans h.c1, (hb.frozen hB).trans h.f1⟩

theorem below_drawn (B : Nat) (w : World) (n : Nat) : Below B w (w.drewN n) := ⟨rfl, rfl, rfl, Nat.le_refl _, fun _ _ => rfl⟩

theorem assert_nil (w : World) : (Instr.typeAssert .nilIface 32 34 true).run Try.prog w = .ok (.tuple #[.pointer none, .bool false]) w := by kernel_rfl
theorem assert_ptr (a : Addr) (w : World) : (Instr.typeAssert (.iface 34 (.pointer (some a))) 32 34 true).run Try.prog w = .ok (.tuple #[.pointer (some a), .bool true]) w := by kernel_rfl

set_option maxHeartbeats 400000 in
theorem take_nil (n : Int) (w : World) :
    Calls Try.prog 6 #[.pointer none, .int .i64 n] w fun e w' => e = .returned (.tuple #[.bool false, .int .i64 (-1)]) ∧ w' = w := by
  have ha := assert_nil
  go_enter Try.func6, Try.ntmps6
  go_wp2
  go_ret2
  exact ⟨rfl, rfl⟩
set_option maxHeartbeats 400000 in
theorem take_yes (b : Nat) (size used n : Int) (w : World) (h : Al w b size used) (hb1 : -9223372036854775808 ≤ used + n) (hb2 : used + n ≤ 9223372036854775807) (hle : used + n ≤ size) :
    Calls Try.prog 6 #[.pointer (some ⟨b, 0, none⟩), .int .i64 n] w fun e w' => e = .returned (.tuple #[.bool false, .int .i64 (-1)]) ∧ Al w' b size (used + n) ∧ Below b w w' := by
  have ha := assert_nil
  obtain ⟨h0, h1, hf⟩ := h
  go_enter Try.func6, Try.ntmps6
  go_wp2
  go_quiet (fail)
  go_wp2
  go_ret2
  refine ⟨rfl, ⟨?_, ?_, ?_⟩, (below_drawn b w nq).setCell (Nat.le_refl _) _⟩ <;> simp [go_sem, h0, h1, hf]
set_option maxHeartbeats 400000 in
theorem take_no (b : Nat) (size used n : Int) (w : World) (h : Al w b size used) (hb1 : -9223372036854775808 ≤ used + n) (hb2 : used + n ≤ 9223372036854775807) (hle : size < used + n) :
    Calls Try.prog 6 #[.pointer (some ⟨b, 0, none⟩), .int .i64 n] w fun e w' => e = .returned (.tuple #[.bool true, .int .i64 size]) ∧ Below w.heap.size w w' := by
  have ha := assert_ptr
  have hx : ∀ k, ((w.drewN k).alloc (.cells #[.int .i64 size] 37)).cell? ⟨w.heap.size, 0, none⟩ = some (.int .i64 size) := fun k => World.cell?_alloc_new (w := w.drewN k) _ _ 0
  obtain ⟨h0, h1, hf⟩ := h
  go_enter Try.func6, Try.ntmps6
  go_wp2
  go_quiet (fail)
  go_wp2
  go_quiet (fail)
  go_wp2
  go_ret2
  exact ⟨rfl, ((below_drawn _ w _).alloc (Nat.le_refl _) _).trans (below_drawn _ _ _)⟩
end Go.Proofs.Qxb6627214a
