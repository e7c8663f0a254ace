/-
  THE WALK over FnTakeInTwoStepsAgreesWithTakeOfSum.
-/
import Derived.Test.Qxb6627214aTake
namespace Go.Proofs.Qxb6627214a
open Go.RowKit

set_option maxHeartbeats 1000000 in
/-- Out of the law's bounds. -/
theorem two_out (size used n1 n2 : Int) (h : size < -1152921504606846976 ∨ 1152921504606846976 < size ∨ used < -1152921504606846976 ∨ 1152921504606846976 < used ∨ n1 < 0 ∨ 1152921504606846976 < n1 ∨ n2 < 0 ∨ 1152921504606846976 < n2) (w : World) :
    Calls Try.prog 3 #[.int .i64 size, .int .i64 used, .int .i64 n1, .int .i64 n2] w fun e w' => e = .returned (.bool true) ∧ Below w.heap.size w w' := by
  by_cases c1 : size < -1152921504606846976
  · clear h; go_enter Try.func3, Try.ntmps3
    go_wp2
    go_ret
    exact ⟨rfl, Below.refl _ _⟩
  by_cases c2 : 1152921504606846976 < size
  · clear h; go_enter Try.func3, Try.ntmps3
    go_wp2
    go_ret
    exact ⟨rfl, Below.refl _ _⟩
  by_cases c3 : used < -1152921504606846976
  · clear h; go_enter Try.func3, Try.ntmps3
    go_wp2
    go_ret
    exact ⟨rfl, Below.refl _ _⟩
  by_cases c4 : 1152921504606846976 < used
  · clear h; go_enter Try.func3, Try.ntmps3
    go_wp2
    go_ret
    exact ⟨rfl, Below.refl _ _⟩
  by_cases d1 : n1 < 0
  · clear h; go_enter Try.func3, Try.ntmps3
    go_wp2
    go_ret
    exact ⟨rfl, Below.refl _ _⟩
  by_cases d2 : 1152921504606846976 < n1
  · clear h; go_enter Try.func3, Try.ntmps3
    go_wp2
    go_ret
    exact ⟨rfl, Below.refl _ _⟩
  by_cases d3 : n2 < 0
  · clear h; go_enter Try.func3, Try.ntmps3
    go_wp2
    go_ret
    exact ⟨rfl, Below.refl _ _⟩
  by_cases d4 : 1152921504606846976 < n2
  · clear h; go_enter Try.func3, Try.ntmps3
    go_wp2
    go_ret
    exact ⟨rfl, Below.refl _ _⟩
  omega

set_option maxHeartbeats 1000000 in
/-- Both steps fit. -/
theorem two_fits (size used n1 n2 : Int) (c1 : -1152921504606846976 ≤ size) (c2 : size ≤ 1152921504606846976) (c3 : -1152921504606846976 ≤ used) (c4 : used ≤ 1152921504606846976) (d1 : 0 ≤ n1) (d2 : n1 ≤ 1152921504606846976) (d3 : 0 ≤ n2) (d4 : n2 ≤ 1152921504606846976)
    (hf : used + n1 + n2 ≤ size) (w : World) :
    Calls Try.prog 3 #[.int .i64 size, .int .i64 used, .int .i64 n1, .int .i64 n2] w fun e w' => e = .returned (.bool true) ∧ Below w.heap.size w w' := by
  have g1 : decide (size < -1152921504606846976) = false := by simp; omega
  have g2 : decide (1152921504606846976 < size) = false := by simp; omega
  have g3 : decide (used < -1152921504606846976) = false := by simp; omega
  have g4 : decide (1152921504606846976 < used) = false := by simp; omega
  have g5 : decide (n1 < 0) = false := by simp; omega
  have g6 : decide (1152921504606846976 < n1) = false := by simp; omega
  have g7 : decide (n2 < 0) = false := by simp; omega
  have g8 : decide (1152921504606846976 < n2) = false := by simp; omega
  have hfb : decide (used + n1 + n2 ≤ size) = true := by simpa using hf
  go_enter Try.func3, Try.ntmps3
  go_wp2_with fail
  refine (new_any size used _).mono ?_
  rintro e w1 ⟨rfl, rfl⟩
  go_wp2_with fail
  refine (take_yes w.heap.size size used n1 _ (Al.new w size used) (by omega) (by omega) (by omega)).mono ?_
  rintro e w2 ⟨rfl, A2, B2⟩
  have G2 : Below w.heap.size w w2 := ((Below.refl _ _).alloc (Nat.le_refl _) _).trans B2
  have s2 : w.heap.size + 1 ≤ w2.heap.size := by have := B2.size; simpa using this
  clear B2
  go_wp2_with fail
  refine (take_yes w.heap.size size (used + n1) n2 _ A2 (by omega) (by omega) (by omega)).mono ?_
  rintro e w3 ⟨rfl, A3, B3⟩
  have G3 : Below w.heap.size w w3 := G2.trans B3
  have s3 : w.heap.size < w3.heap.size := by have := B3.size; omega
  clear B3 G2 A2 s2
  go_wp2_with fail
  refine (new_any size used _).mono ?_
  rintro e w4 ⟨rfl, rfl⟩
  go_wp2_with fail
  refine (take_yes w3.heap.size size used (n1 + n2) _ (Al.new w3 size used) (by omega) (by omega) (by omega)).mono ?_
  rintro e w5 ⟨rfl, A5, B5⟩
  have A6 : Al w5 w.heap.size size (used + n1 + n2) := A3.below (((Below.refl _ _).alloc (Nat.le_refl _) _).trans B5) s3
  have G5 : Below w.heap.size w w5 := (G3.alloc (by omega) _).trans (B5.mono (by omega))
  clear B5 G3 A3
  go_wp2_with fail
  refine (used_any w.heap.size (used + n1 + n2) _ A6.c1).mono ?_
  rintro e w6 ⟨rfl, rfl⟩
  go_wp2_with fail
  refine (used_any w3.heap.size (used + (n1 + n2)) _ A5.c1).mono ?_
  rintro e w6 ⟨rfl, rfl⟩
  have hz : (used + (n1 + n2) == used + n1 + n2) = true := by rw [beq_iff_eq]; omega
  go_wp2
  go_ret
  exact ⟨rfl, G5⟩

set_option maxHeartbeats 1000000 in
/-- The first step fits, the second does not. -/
theorem two_half (size used n1 n2 : Int) (c1 : -1152921504606846976 ≤ size) (c2 : size ≤ 1152921504606846976) (c3 : -1152921504606846976 ≤ used) (c4 : used ≤ 1152921504606846976) (d1 : 0 ≤ n1) (d2 : n1 ≤ 1152921504606846976) (d3 : 0 ≤ n2) (d4 : n2 ≤ 1152921504606846976)
    (hf : used + n1 ≤ size) (hg : size < used + n1 + n2) (w : World) :
    Calls Try.prog 3 #[.int .i64 size, .int .i64 used, .int .i64 n1, .int .i64 n2] w fun e w' => e = .returned (.bool true) ∧ Below w.heap.size w w' := by
  have g1 : decide (size < -1152921504606846976) = false := by simp; omega
  have g2 : decide (1152921504606846976 < size) = false := by simp; omega
  have g3 : decide (used < -1152921504606846976) = false := by simp; omega
  have g4 : decide (1152921504606846976 < used) = false := by simp; omega
  have g5 : decide (n1 < 0) = false := by simp; omega
  have g6 : decide (1152921504606846976 < n1) = false := by simp; omega
  have g7 : decide (n2 < 0) = false := by simp; omega
  have g8 : decide (1152921504606846976 < n2) = false := by simp; omega
  have hfb : decide (used + n1 + n2 ≤ size) = false := by simp; omega
  have hfc : decide (used + n1 ≤ size) = true := by simpa using hf
  go_enter Try.func3, Try.ntmps3
  go_wp2_with fail
  refine (new_any size used _).mono ?_
  rintro e w1 ⟨rfl, rfl⟩
  go_wp2_with fail
  refine (take_yes w.heap.size size used n1 _ (Al.new w size used) (by omega) (by omega) (by omega)).mono ?_
  rintro e w2 ⟨rfl, A2, B2⟩
  have G2 : Below w.heap.size w w2 := ((Below.refl _ _).alloc (Nat.le_refl _) _).trans B2
  have s2 : w.heap.size + 1 ≤ w2.heap.size := by have := B2.size; simpa using this
  clear B2
  go_wp2_with fail
  refine (take_no w.heap.size size (used + n1) n2 _ A2 (by omega) (by omega) (by omega)).mono ?_
  rintro e w3 ⟨rfl, B3⟩
  have A3 : Al w3 w.heap.size size (used + n1) := A2.below B3 (by omega)
  have G3 : Below w.heap.size w w3 := G2.trans (B3.mono (by omega))
  have s3 : w.heap.size < w3.heap.size := by have := B3.size; omega
  clear B3 G2 A2 s2
  go_wp2_with fail
  refine (new_any size used _).mono ?_
  rintro e w4 ⟨rfl, rfl⟩
  go_wp2_with fail
  refine (take_no w3.heap.size size used (n1 + n2) _ (Al.new w3 size used) (by omega) (by omega) (by omega)).mono ?_
  rintro e w5 ⟨rfl, B5⟩
  have A5 : Al w5 w3.heap.size size used := (Al.new w3 size used).below B5 (by simp)
  have A6 : Al w5 w.heap.size size (used + n1) := A3.below (((Below.refl _ _).alloc (Nat.le_refl _) _).trans (B5.mono (by simp))) s3
  have G5 : Below w.heap.size w w5 := (G3.alloc (by omega) _).trans (B5.mono (by simp; omega))
  clear B5 G3 A3
  go_wp2_with fail
  refine (used_any w3.heap.size used _ A5.c1).mono ?_
  rintro e w6 ⟨rfl, rfl⟩
  go_wp2_with fail
  refine (used_any w.heap.size (used + n1) _ A6.c1).mono ?_
  rintro e w6 ⟨rfl, rfl⟩
  go_wp2
  go_ret
  exact ⟨rfl, G5⟩

set_option maxHeartbeats 1000000 in
/-- The first step does not fit. -/
theorem two_none (size used n1 n2 : Int) (c1 : -1152921504606846976 ≤ size) (c2 : size ≤ 1152921504606846976) (c3 : -1152921504606846976 ≤ used) (c4 : used ≤ 1152921504606846976) (d1 : 0 ≤ n1) (d2 : n1 ≤ 1152921504606846976) (d3 : 0 ≤ n2) (d4 : n2 ≤ 1152921504606846976)
    (hf : size < used + n1) (w : World) :
    Calls Try.prog 3 #[.int .i64 size, .int .i64 used, .int .i64 n1, .int .i64 n2] w fun e w' => e = .returned (.bool true) ∧ Below w.heap.size w w' := by
  have g1 : decide (size < -1152921504606846976) = false := by simp; omega
  have g2 : decide (1152921504606846976 < size) = false := by simp; omega
  have g3 : decide (used < -1152921504606846976) = false := by simp; omega
  have g4 : decide (1152921504606846976 < used) = false := by simp; omega
  have g5 : decide (n1 < 0) = false := by simp; omega
  have g6 : decide (1152921504606846976 < n1) = false := by simp; omega
  have g7 : decide (n2 < 0) = false := by simp; omega
  have g8 : decide (1152921504606846976 < n2) = false := by simp; omega
  have hfb : decide (used + n1 + n2 ≤ size) = false := by simp; omega
  go_enter Try.func3, Try.ntmps3
  go_wp2_with fail
  refine (new_any size used _).mono ?_
  rintro e w1 ⟨rfl, rfl⟩
  go_wp2_with fail
  refine (take_no w.heap.size size used n1 _ (Al.new w size used) (by omega) (by omega) (by omega)).mono ?_
  rintro e w3 ⟨rfl, B3⟩
  have A3 : Al w3 w.heap.size size used := (Al.new w size used).below B3 (by simp)
  have G3 : Below w.heap.size w w3 := ((Below.refl _ _).alloc (Nat.le_refl _) _).trans (B3.mono (by simp))
  have s3 : w.heap.size < w3.heap.size := by have := B3.size; simp at this; omega
  clear B3
  go_wp2_with fail
  refine (new_any size used _).mono ?_
  rintro e w4 ⟨rfl, rfl⟩
  go_wp2_with fail
  refine (take_no w3.heap.size size used (n1 + n2) _ (Al.new w3 size used) (by omega) (by omega) (by omega)).mono ?_
  rintro e w5 ⟨rfl, B5⟩
  have A5 : Al w5 w3.heap.size size used := (Al.new w3 size used).below B5 (by simp)
  have A6 : Al w5 w.heap.size size used := A3.below (((Below.refl _ _).alloc (Nat.le_refl _) _).trans (B5.mono (by simp))) s3
  have G5 : Below w.heap.size w w5 := (G3.alloc (by omega) _).trans (B5.mono (by simp; omega))
  clear B5 G3 A3
  go_wp2_with fail
  refine (used_any w3.heap.size used _ A5.c1).mono ?_
  rintro e w6 ⟨rfl, rfl⟩
  go_wp2_with fail
  refine (used_any w.heap.size used _ A6.c1).mono ?_
  rintro e w6 ⟨rfl, rfl⟩
  go_wp2
  go_ret
  exact ⟨rfl, G5⟩

theorem two_any (size used n1 n2 : Int) (w : World) :
    Calls Try.prog 3 #[.int .i64 size, .int .i64 used, .int .i64 n1, .int .i64 n2] w fun e w' => e = .returned (.bool true) ∧ Below w.heap.size w w' := by
  by_cases h : size < -1152921504606846976 ∨ 1152921504606846976 < size ∨ used < -1152921504606846976 ∨ 1152921504606846976 < used ∨ n1 < 0 ∨ 1152921504606846976 < n1 ∨ n2 < 0 ∨ 1152921504606846976 < n2
  · exact two_out size used n1 n2 h w
  by_cases h1 : used + n1 + n2 ≤ size
  · exact two_fits size used n1 n2 (by omega) (by omega) (by omega) (by omega) (by omega) (by omega) (by omega) (by omega) h1 w
  by_cases h2 : used + n1 ≤ size
  · exact two_half size used n1 n2 (by omega) (by omega) (by omega) (by omega) (by omega) (by omega) (by omega) (by omega) h2 (by omega) w
  · exact two_none size used n1 n2 (by omega) (by omega) (by omega) (by omega) (by omega) (by omega) (by omega) (by omega) (by omega) w
end Go.Proofs.Qxb6627214a
