/-
  THE WALK over FnReviseScriptRevisionsRise at a script of no steps.
-/
import Derived.Test.Qxb6626884aMain
import Derived.Test.Qxb6626884aByteS
namespace Go.Proofs.Qxb6626884a
open Go.RowKit

theorem bytesNC (p : PD) (ad : Option Addr) (cap : Nat) (w : World) :
    Calls Try.prog 10 #[.agg p.cells, .slice ad 0 cap] w fun e w' => (∃ r, e = .returned (.bool r)) ∧ Below w.heap.size w w' := bytesS_none p ad cap w

set_option maxRecDepth 100000 in
set_option maxHeartbeats 1000000 in
theorem script_none (p : PD) (ad : Option Addr) (cap : Nat) (w : World) (hp : (-9223372036854775808 ≤ p.since ∧ p.since ≤ 9223372036854775807)) :
    Calls Try.prog 4 #[.agg p.cells, .slice ad 0 cap] w fun e w' => e = .returned (.bool true) ∧ Below w.heap.size w w' := by
  go_enter Try.func4, Try.ntmps4
  go_wp2_with (first
    | ((with_reducible refine wpList_load23 2 w.heap.size p ?_ ?_ ?_); rfl; exact has_new _ _ _))
  refine (bytesNC p ad cap _).mono ?_
  rintro e w1 ⟨⟨r0, rfl⟩, hb1⟩
  have hP1 : Has w1 w.heap.size 23 p.cells := (has_new _ _ _).below hb1
  have hB1 : Below w.heap.size w w1 := ((Below.refl _ _).alloc (Nat.le_refl _) _).trans (hb1.mono (by simp))
  clear hb1
  cases r0
  · go_wp2
    go_ret
    exact ⟨rfl, hB1⟩
  go_wp2_with (first
    | ((with_reducible refine wpList_load23 2 w.heap.size p ?_ ?_ ?_); rfl; exact hP1))
  refine (bytes1C p _).mono ?_
  rintro e w2 ⟨⟨n0, rfl⟩, hb2⟩
  have hP2 := hP1.below hb2
  have hB2 : Below w.heap.size w w2 := hB1.trans (hb2.mono hB1.size)
  have hc17 : w2.cell? ⟨w.heap.size, 17, none⟩ = some (.int .i64 p.rev) := hP2.cell 17
  clear hb2 hP1 hB1
  go_wp2_with fail
  refine wp_loop_rounds 1 ?_
  rw [rounds_succ]
  by_cases hq : 1048576 < n0
  · go_wp2
    go_ret
    exact ⟨rfl, hB2⟩
  by_cases hpm : 9223372036854767615 < p.rev
  · go_wp2
    go_ret
    exact ⟨rfl, hB2⟩
  go_wp2
  refine wp_loop_rounds 1 ?_
  rw [rounds_succ]
  go_wp2_with (first
    | ((with_reducible refine wpList_load23 2 w.heap.size p ?_ ?_ ?_); rfl; exact hP2))
  refine (toPaneC p hp _).mono ?_
  rintro e w4 ⟨rfl, hb4⟩
  have hP4 := hP2.below hb4
  have hB4 : Below w.heap.size w w4 := hB2.trans (hb4.mono hB2.size)
  clear hb4 hP2 hB2 hc17
  go_wp2_with (first
    | ((with_reducible refine wpList_store33 w4.heap.size p p.rev ?_ ?_ ?_ ?_ ?_); rfl; rfl; rfl; rfl)
    | ((with_reducible refine wpList_load23 2 w.heap.size p ?_ ?_ ?_); rfl; exact hP4.alloc _)
    | ((with_reducible refine wpList_store23 (w4.heap.size + 1) p ?_ ?_ ?_ ?_ ?_); simp; rfl; rfl; rfl))
  have hs4 := hB4.size
  have hB5 : Below w.heap.size w ((w4.alloc (.cells (p.pane p.rev) 33)).alloc (.cells p.cells 23)) := (hB4.alloc hs4 _).alloc (by simp; omega) _
  refine wp_loop_rounds 1 ?_
  rw [rounds_succ]
  go_wp2
  go_ret
  exact ⟨rfl, hB5⟩
end Go.Proofs.Qxb6626884a
