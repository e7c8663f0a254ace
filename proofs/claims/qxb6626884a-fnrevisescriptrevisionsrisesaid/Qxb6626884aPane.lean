/-
  THE WALK over zzb1ToPane.
-/
import Derived.Test.Qxb6626884aTime
import Derived.Test.Qxb6626884aBytes
import Derived.Test.Qxb6626884aBlk
namespace Go.Proofs.Qxb6626884a
open Go.RowKit

/-- The cells of a PaneData. -/
def PD.cells (d : PD) : Array Value := #[.int .i64 d.st, .int .i64 d.re, .bool d.seen, .string d.s3, .string d.s4, .string d.s5, .int .i64 d.since, .string d.s7, .string d.s8, .string d.s9, .string d.s10, .string d.s11, .string d.s12, .int .i64 d.tf, .string d.s14, .string d.s15, .string d.s16, .int .i64 d.rev]
/-- The cells of the Pane of a PaneData, at revision r. -/
def PD.pane (d : PD) (r : Int) : Array Value := #[.int .i64 d.st, .int .i64 d.re, .bool d.seen, .string d.s3, .string d.s4, .string d.s5, .int .u64 ((62135596800000000 + d.since) % 1000000 * 1000), .int .i64 ((62135596800000000 + d.since) / 1000000), .pointer none, .string d.s7, .string d.s8, .string d.s9, .string d.s10, .string d.s11, .string d.s12, .int .i64 d.tf, .string d.s14, .string d.s15, .string d.s16, .int .i64 r]

/-- One result, in a variable of its own. -/
theorem results_cell1 {P : Program} {w : World} {fn : Func} {p : Tmp} {ty : TypeId} {tmps : Array Value} {x : Addr} {v : Value} (h : fn.results = #[.cell p ty]) (hp : tmps.getD p undef = .pointer (some x)) (hl : (loadVar ty x).run P w = .ok v w) : (results fn tmps).run P w = .ok v w := by
  have hp' : (tmps[p]?).getD undef = .pointer (some x) := by simpa using hp
  simp only [results, h]
  simp [asAddr, hp', hl]
theorem bcell {W w1 : World} (hb : Below W.heap.size W w1) : (∀ b o, b < W.heap.size → w1.cell? ⟨b, o, none⟩ = W.cell? ⟨b, o, none⟩) ∧ (∀ b o, b < W.heap.size → w1.frozen? ⟨b, o, none⟩ = W.frozen? ⟨b, o, none⟩) :=
  ⟨fun b o h => hb.cell (p := ⟨b, o, none⟩) h, fun b o h => hb.frozen (p := ⟨b, o, none⟩) h⟩

theorem fieldAt23 (B : Nat) : ∀ k, k < 18 → ∀ w, (Instr.fieldAt 23 (.pointer (some ⟨B, 0, none⟩)) k).run Try.prog w = .ok (.pointer (some ⟨B, k, none⟩)) w := by
  intro k hk w
  have h : k = 0 ∨ k = 1 ∨ k = 2 ∨ k = 3 ∨ k = 4 ∨ k = 5 ∨ k = 6 ∨ k = 7 ∨ k = 8 ∨ k = 9 ∨ k = 10 ∨ k = 11 ∨ k = 12 ∨ k = 13 ∨ k = 14 ∨ k = 15 ∨ k = 16 ∨ k = 17 := by omega
  rcases h with rfl | rfl | rfl | rfl | rfl | rfl | rfl | rfl | rfl | rfl | rfl | rfl | rfl | rfl | rfl | rfl | rfl | rfl <;> (show _ = _; kernel_rfl)
theorem loadOne : ∀ e ∈ [2, 3, 4, 9], ∀ (x : Addr) (w : World) (v : Value), w.cell? x = some v → (Instr.loadAt e (.pointer (some x))).run Try.prog w = .ok v w := by
  intro e he x w v hv
  simp only [List.mem_cons, List.not_mem_nil, or_false] at he
  rcases he with rfl | rfl | rfl | rfl <;> simp [Instr.loadAt, Instr.sureAddr, loadVar, isAgg, run_underlying Try.underlying2, run_underlying Try.underlying3, run_underlying Try.underlying4, run_underlying Try.underlying9, hv]

theorem enter9 : ∀ args w, (callFunc 9 args).run Try.prog w = .ok (.enter 9 args) w := fun _ _ => by kernel_rfl

abbrev pairs7 : List (Nat × Nat × Nat) := [(0, 1, 0), (2, 3, 1), (4, 5, 2), (6, 7, 3), (8, 9, 4), (10, 11, 5), (12, 13, 6), (15, 16, 7), (17, 18, 8), (19, 20, 9), (21, 22, 10), (23, 24, 11), (25, 26, 12), (27, 28, 13), (29, 30, 14), (31, 32, 15), (33, 34, 16), (35, 36, 17)]

set_option maxRecDepth 100000 in
set_option maxHeartbeats 1000000 in
theorem toPane_any (d : PD) (hm : -9223372036854775808 ≤ d.since ∧ d.since ≤ 9223372036854775807) (w : World) :
    Calls Try.prog 7 #[d.v] w fun e w' => e = .returned (.agg (d.pane d.rev)) ∧ Below w.heap.size w w' := by
  go_enter Try.func7, Try.ntmps7
  go_wp2
  refine wp_region_held_drew (S := fun w' => ∀ o, w'.cell? ⟨w.heap.size, o, none⟩ = d.cells[o]?) (by kernel_rfl) ?_ (fun hS => ?_)
  · simp [go_sem, PD.cells]
  refine wpAnyH_takesTo (st := stOf w.heap.size d.cells pairs7) (fuel := 3) (listed' := #[true, true, true, true, true, true, true, true, true, true, true, true, true, true, false, true, true, true, true, true, true, true, true, true, true, true, true, true, true, true, true, true, true, true, true, true, true, false, false]) (a' := { tmps := #[d.v, .pointer (some ⟨w.heap.size, 0, none⟩), .pointer (some ⟨w.heap.size + 1, 0, none⟩), .pointer (some ⟨w.heap.size, 0, none⟩), .int .i64 d.st, .pointer (some ⟨w.heap.size, 1, none⟩), .int .i64 d.re, .pointer (some ⟨w.heap.size, 2, none⟩), .bool d.seen, .pointer (some ⟨w.heap.size, 3, none⟩), .string d.s3, .pointer (some ⟨w.heap.size, 4, none⟩), .string d.s4, .pointer (some ⟨w.heap.size, 5, none⟩), .string d.s5, .pointer (some ⟨w.heap.size, 6, none⟩), .int .i64 d.since, undef, .pointer (some ⟨w.heap.size, 7, none⟩), .string d.s7, .pointer (some ⟨w.heap.size, 8, none⟩), .string d.s8, .pointer (some ⟨w.heap.size, 9, none⟩), .string d.s9, .pointer (some ⟨w.heap.size, 10, none⟩), .string d.s10, .pointer (some ⟨w.heap.size, 11, none⟩), .string d.s11, .pointer (some ⟨w.heap.size, 12, none⟩), .string d.s12, .pointer (some ⟨w.heap.size, 13, none⟩), .int .i64 d.tf, .pointer (some ⟨w.heap.size, 14, none⟩), .string d.s14, .pointer (some ⟨w.heap.size, 15, none⟩), .string d.s15, .pointer (some ⟨w.heap.size, 16, none⟩), .string d.s16, .pointer (some ⟨w.heap.size, 17, none⟩), .int .i64 d.rev, undef], defers := [] })
    (by kernel_rfl) (fun _ _ _ _ _ h => h) (by kernel_rfl) (YSeq_pairs (t := 23) (b0 := 1) (n := 41) (one := [2, 3, 4, 9]) (cs := d.cells) (fun k hk => fieldAt23 _ k hk) loadOne (fun w h => h) _ _ (by kernel_rfl) rfl rfl) hS (by kernel_rfl) (by kernel_rfl) ?_
  refine wpAnyH_one (i := 14) (d := some 17) (op := .call { callee := .value (.func 9), args := #[.tmp 16], argTypes := #[2] }) (by kernel_rfl) (by kernel_rfl) fun o hd ho => ?_
  refine wp_enter (args := #[.int .i64 d.since]) ho enter9 (by kernel_rfl) ((timeAt_any d.since hm _).mono ?_)
  rintro e w1 ⟨rfl, hb⟩
  refine ⟨_, rfl, fun o => ?_, ?_⟩
  · rw [hb.cell (by simp; omega)]; exact hS o
  rw [hd]
  refine wpAnyH_take1 (i := 37) (d := some 40) (op := .build 33 #[(0, .tmp 4), (1, .tmp 6), (2, .tmp 8), (3, .tmp 10), (4, .tmp 12), (5, .tmp 14), (6, .tmp 17), (7, .tmp 19), (8, .tmp 21), (9, .tmp 23), (10, .tmp 25), (11, .tmp 27), (12, .tmp 29), (13, .tmp 31), (14, .tmp 33), (15, .tmp 35), (16, .tmp 37), (17, .tmp 39)]) (v := .agg (d.pane d.rev)) (by kernel_rfl) (fun _ _ _ _ _ h => h) (by kernel_rfl) (by kernel_rfl) (by kernel_rfl) (fun o ho w _ => ?_) (fun o => by rw [hb.cell (by simp; omega)]; exact hS o) ?_
  · simp only [execOp, ho]
    show _ = _
    kernel_rfl
  have hth : w1.there (w.heap.size + 1) 0 (d.pane d.rev).size := fun j hj => by
    have hj' : j < 20 := hj
    rw [hb.cell (by simp), hb.frozen (by simp)]
    simp [go_sem, hj']
  have hS1 : ∀ o, w1.cell? ⟨w.heap.size, o, none⟩ = d.cells[o]? := fun o => by rw [hb.cell (by simp; omega)]; exact hS o
  have hB : Below w.heap.size w w1 := (((Below.refl _ _).alloc (Nat.le_refl _) _).alloc (by simp) _).drew.trans (hb.mono (by simp; omega))
  clear hb hS
  refine wpAnyH_one (i := 38) (d := none) (op := .store 33 (.tmp 2) (.tmp 40)) (by kernel_rfl) (by kernel_rfl) fun o hd ho => ?_
  refine wp_store_mid 33 (.tmp 2) (.tmp 40) ho (w.heap.size + 1) 0 (d.pane d.rev) (by kernel_rfl) (by kernel_rfl) hth (by kernel_rfl) (by kernel_rfl) ⟨fun o => ?_, ?_⟩
  · rw [World.cell?_setCells_out _ _ _ _ _ (fun h => by simp at h)]; exact hS1 o
  rw [hd]
  refine wpAnyH_done (by kernel_rfl) ?_ _
  have hr := World.rangeAt_setCells_same w1 (w.heap.size + 1) 0 (d.pane d.rev).toList hth
  have hl := run_loadVar_mid (P := Try.prog) _ _ _ 33 _ _ hr Try.underlying33 rfl (by kernel_rfl)
  have hB' := below_setCells (Nat.le_succ _) (d.pane d.rev).toList 0 hB
  go_wp2
  exact bodyPost_ret (v := .agg (d.pane d.rev)) (results_cell1 Try.results7 (x := ⟨w.heap.size + 1, 0, none⟩) (by kernel_rfl) (by simpa using hl)) rfl ⟨rfl, hB'⟩
end Go.Proofs.Qxb6626884a
