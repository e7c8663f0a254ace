/-
  THE WALK over FnTakeThenGiveBackRestores.
-/
import Derived.Test.Qxb6627214aTake
namespace Go.Proofs.Qxb6627214a
open Go.RowKit

set_option maxHeartbeats 1000000 in
/-- Out of the law's bounds. -/
theorem back_out (nil : Bool) (size used n : Int) (h : size < -1152921504606846976 ∨ 1152921504606846976 < size ∨ used < -1152921504606846976 ∨ 1152921504606846976 < used ∨ n < -1152921504606846976 ∨ 1152921504606846976 < n) (w : World) :
    Calls Try.prog 4 #[.bool nil, .int .i64 size, .int .i64 used, .int .i64 n] w fun e w' => e = .returned (.bool true) ∧ Below w.heap.size w w' := by
  by_cases c1 : size < -1152921504606846976
  · clear h; go_enter Try.func4, Try.ntmps4
    go_wp2
    go_ret
    exact ⟨rfl, Below.refl _ _⟩
  by_cases c2 : 1152921504606846976 < size
  · clear h; go_enter Try.func4, Try.ntmps4
    go_wp2
    go_ret
    exact ⟨rfl, Below.refl _ _⟩
  by_cases c3 : used < -1152921504606846976
  · clear h; go_enter Try.func4, Try.ntmps4
    go_wp2
    go_ret
    exact ⟨rfl, Below.refl _ _⟩
  by_cases c4 : 1152921504606846976 < used
  · clear h; go_enter Try.func4, Try.ntmps4
    go_wp2
    go_ret
    exact ⟨rfl, Below.refl _ _⟩
  by_cases d1 : n < -1152921504606846976
  · clear h; go_enter Try.func4, Try.ntmps4
    go_wp2
    go_ret
    exact ⟨rfl, Below.refl _ _⟩
  by_cases d2 : 1152921504606846976 < n
  · clear h; go_enter Try.func4, Try.ntmps4
    go_wp2
    go_ret
    exact ⟨rfl, Below.refl _ _⟩
  omega

set_option maxHeartbeats 1000000 in
/-- A nil allowance. -/
theorem back_nil (size used n : Int) (c1 : -1152921504606846976 ≤ size) (c2 : size ≤ 1152921504606846976) (c3 : -1152921504606846976 ≤ used) (c4 : used ≤ 1152921504606846976) (d1 : -1152921504606846976 ≤ n) (d2 : n ≤ 1152921504606846976) (w : World) :
    Calls Try.prog 4 #[.bool true, .int .i64 size, .int .i64 used, .int .i64 n] w fun e w' => e = .returned (.bool true) ∧ Below w.heap.size w w' := by
  have g1 : decide (size < -1152921504606846976) = false := by simp; omega
  have g2 : decide (1152921504606846976 < size) = false := by simp; omega
  have g3 : decide (used < -1152921504606846976) = false := by simp; omega
  have g4 : decide (1152921504606846976 < used) = false := by simp; omega
  have g5 : decide (n < -1152921504606846976) = false := by simp; omega
  have g6 : decide (1152921504606846976 < n) = false := by simp; omega
  go_enter Try.func4, Try.ntmps4
  go_wp2_with fail
  refine (take_nil n _).mono ?_
  rintro e w1 ⟨rfl, rfl⟩
  go_wp2_with fail
  refine (take_nil (-n) _).mono ?_
  rintro e w1 ⟨rfl, rfl⟩
  go_wp2
  go_ret
  exact ⟨rfl, Below.refl _ _⟩

set_option maxHeartbeats 1000000 in
theorem back_over (size used n : Int) (c1 : -1152921504606846976 ≤ size) (c2 : size ≤ 1152921504606846976) (c3 : -1152921504606846976 ≤ used) (c4 : used ≤ 1152921504606846976) (d1 : -1152921504606846976 ≤ n) (d2 : n ≤ 1152921504606846976) (hu : size < used) (w : World) :
    Calls Try.prog 4 #[.bool false, .int .i64 size, .int .i64 used, .int .i64 n] w fun e w' => e = .returned (.bool true) ∧ Below w.heap.size w w' := by
  have g1 : decide (size < -1152921504606846976) = false := by simp; omega
  have g2 : decide (1152921504606846976 < size) = false := by simp; omega
  have g3 : decide (used < -1152921504606846976) = false := by simp; omega
  have g4 : decide (1152921504606846976 < used) = false := by simp; omega
  have g5 : decide (n < -1152921504606846976) = false := by simp; omega
  have g6 : decide (1152921504606846976 < n) = false := by simp; omega
  go_enter Try.func4, Try.ntmps4
  go_wp2
  go_ret
  exact ⟨rfl, Below.refl _ _⟩

set_option maxHeartbeats 1000000 in
theorem back_yes (size used n : Int) (c1 : -1152921504606846976 ≤ size) (c2 : size ≤ 1152921504606846976) (c3 : -1152921504606846976 ≤ used) (c4 : used ≤ 1152921504606846976) (d1 : -1152921504606846976 ≤ n) (d2 : n ≤ 1152921504606846976) (hu : used ≤ size) (hf : n ≤ size - used) (w : World) :
    Calls Try.prog 4 #[.bool false, .int .i64 size, .int .i64 used, .int .i64 n] w fun e w' => e = .returned (.bool true) ∧ Below w.heap.size w w' := by
  have g1 : decide (size < -1152921504606846976) = false := by simp; omega
  have g2 : decide (1152921504606846976 < size) = false := by simp; omega
  have g3 : decide (used < -1152921504606846976) = false := by simp; omega
  have g4 : decide (1152921504606846976 < used) = false := by simp; omega
  have g5 : decide (n < -1152921504606846976) = false := by simp; omega
  have g6 : decide (1152921504606846976 < n) = false := by simp; omega
  go_enter Try.func4, Try.ntmps4
  go_wp2_with fail
  refine (new_any size used _).mono ?_
  rintro e w1 ⟨rfl, rfl⟩
  go_wp2_with fail
  refine (take_yes w.heap.size size used n _ (Al.new w size used) (by omega) (by omega) (by omega)).mono ?_
  rintro e w2 ⟨rfl, A2, B2⟩
  have G2 : Below w.heap.size w w2 := ((Below.refl _ _).alloc (Nat.le_refl _) _).trans B2
  clear B2
  go_wp2_with fail
  refine (used_any w.heap.size (used + n) _ A2.c1).mono ?_
  rintro e w3 ⟨rfl, rfl⟩
  go_wp2_with fail
  refine (take_yes w.heap.size size (used + n) (-n) _ A2 (by omega) (by omega) (by omega)).mono ?_
  rintro e w4 ⟨rfl, A4, B4⟩
  have G4 : Below w.heap.size w w4 := G2.trans B4
  clear B4 A2
  go_wp2_with fail
  refine (used_any w.heap.size (used + n + -n) _ A4.c1).mono ?_
  rintro e w5 ⟨rfl, rfl⟩
  have hz : (used + n + -n == used) = true := by rw [beq_iff_eq]; omega
  go_wp2
  go_ret
  exact ⟨rfl, G4⟩

set_option maxHeartbeats 1000000 in
theorem back_no (size used n : Int) (c1 : -1152921504606846976 ≤ size) (c2 : size ≤ 1152921504606846976) (c3 : -1152921504606846976 ≤ used) (c4 : used ≤ 1152921504606846976) (d1 : -1152921504606846976 ≤ n) (d2 : n ≤ 1152921504606846976) (hu : used ≤ size) (hf : size - used < n) (w : World) :
    Calls Try.prog 4 #[.bool false, .int .i64 size, .int .i64 used, .int .i64 n] w fun e w' => e = .returned (.bool true) ∧ Below w.heap.size w w' := by
  have g1 : decide (size < -1152921504606846976) = false := by simp; omega
  have g2 : decide (1152921504606846976 < size) = false := by simp; omega
  have g3 : decide (used < -1152921504606846976) = false := by simp; omega
  have g4 : decide (1152921504606846976 < used) = false := by simp; omega
  have g5 : decide (n < -1152921504606846976) = false := by simp; omega
  have g6 : decide (1152921504606846976 < n) = false := by simp; omega
  go_enter Try.func4, Try.ntmps4
  go_wp2_with fail
  refine (new_any size used _).mono ?_
  rintro e w1 ⟨rfl, rfl⟩
  go_wp2_with fail
  refine (take_no w.heap.size size used n _ (Al.new w size used) (by omega) (by omega) (by omega)).mono ?_
  rintro e w3 ⟨rfl, B3⟩
  have A3 : Al w3 w.heap.size size used := (Al.new w size used).below B3 (by simp)
  have G3 : Below w.heap.size w w3 := ((Below.refl _ _).alloc (Nat.le_refl _) _).trans (B3.mono (by simp))
  have s3 : w.heap.size < w3.heap.size := by have := B3.size; simp at this; omega
  clear B3
  go_wp2_with fail
  refine (used_any w.heap.size used _ A3.c1).mono ?_
  rintro e w4 ⟨rfl, rfl⟩
  go_wp2_with fail
  refine (take_no w.heap.size size used n _ A3 (by omega) (by omega) (by omega)).mono ?_
  rintro e w5 ⟨rfl, B5⟩
  have A5 : Al w5 w.heap.size size used := A3.below B5 s3
  have G5 : Below w.heap.size w w5 := G3.trans (B5.mono (by omega))
  clear B5 A3
  go_wp2_with fail
  refine (used_any w.heap.size used _ A5.c1).mono ?_
  rintro e w6 ⟨rfl, rfl⟩
  go_wp2
  go_ret
  exact ⟨rfl, G5⟩

theorem back_any (nil : Bool) (size used n : Int) (w : World) :
    Calls Try.prog 4 #[.bool nil, .int .i64 size, .int .i64 used, .int .i64 n] w fun e w' => e = .returned (.bool true) ∧ Below w.heap.size w w' := by
  by_cases h : size < -1152921504606846976 ∨ 1152921504606846976 < size ∨ used < -1152921504606846976 ∨ 1152921504606846976 < used ∨ n < -1152921504606846976 ∨ 1152921504606846976 < n
  · exact back_out nil size used n h w
  cases nil
  · by_cases h1 : used ≤ size
    · by_cases h2 : n ≤ size - used
      · exact back_yes size used n (by omega) (by omega) (by omega) (by omega) (by omega) (by omega) h1 h2 w
      · exact back_no size used n (by omega) (by omega) (by omega) (by omega) (by omega) (by omega) h1 (by omega) w
    · exact back_over size used n (by omega) (by omega) (by omega) (by omega) (by omega) (by omega) (by omega) w
  · exact back_nil size used n (by omega) (by omega) (by omega) (by omega) (by omega) (by omega) w
end Go.Proofs.Qxb6627214a
