/-
  THE WALK over Revise.
-/
import Derived.Test.Qxb6626884aEq
namespace Go.Proofs.Qxb6626884a
open Go.RowKit

theorem pane19 (d : PD) (r : Int) : (d.pane r)[19]? = some (.int .i64 r) := rfl
theorem paneSet (d : PD) (r r' : Int) : (d.pane r).setIfInBounds 19 (.int .i64 r') = d.pane r' := rfl
theorem paneSize (d : PD) (r : Int) : (d.pane r).size = 20 := rfl

section
variable {ops : Array Oper} {rest : List Oper} {a : Act} {w : World} {Q : Exit → Act → World → Prop} {dst : Option Tmp} {ty : TypeId} {pos : String} {after : Array Edge}
theorem wpList_eql33 {x y : Operand} {ty' : TypeId} (d e : PD) (r r' : Int) (q : Bool) (hq : (sameB d e && r == r') = q) (hx : a.eval x = .agg (d.pane r)) (hy : a.eval y = .agg (e.pane r'))
    (h : wpList Try.prog ops Q rest (a.put dst (.bool q)) w) : wpList Try.prog ops Q ({ dst, op := .binOp .eql 33 x y ty', type := ty, pos, after, guard := none } :: rest) a w := by
  subst hq
  refine wpList_yields rfl _ ?_ h
  simp only [execOp, hx, hy]
  rw [Sem.run_bind, run_eql33 w x y d e r r']
  rfl
theorem wpList_neq33 {x y : Operand} {ty' : TypeId} (d e : PD) (r r' : Int) (q : Bool) (hq : (!(sameB d e && r == r')) = q) (hx : a.eval x = .agg (d.pane r)) (hy : a.eval y = .agg (e.pane r'))
    (h : wpList Try.prog ops Q rest (a.put dst (.bool q)) w) : wpList Try.prog ops Q ({ dst, op := .binOp .neq 33 x y ty', type := ty, pos, after, guard := none } :: rest) a w := by
  subst hq
  refine wpList_yields rfl _ ?_ h
  simp only [execOp, hx, hy]
  rw [Sem.run_bind, run_neq33 w x y d e r r']
  rfl
theorem wpList_eql23 {x y : Operand} {ty' : TypeId} (d e : PD) (q : Bool) (hq : (sameB d e && d.rev == e.rev) = q) (hx : a.eval x = .agg d.cells) (hy : a.eval y = .agg e.cells)
    (h : wpList Try.prog ops Q rest (a.put dst (.bool q)) w) : wpList Try.prog ops Q ({ dst, op := .binOp .eql 23 x y ty', type := ty, pos, after, guard := none } :: rest) a w := by
  subst hq
  refine wpList_yields rfl _ ?_ h
  simp only [execOp, hx, hy]
  rw [Sem.run_bind, run_eql23 w x y d e]
  rfl
theorem wpList_store33_has {x y : Operand} {z : Array Value} (b : Nat) (d : PD) (r : Int) (hb : Has w b 33 z) (hz : z.size = 20) (hx : a.eval x = .pointer (some ⟨b, 0, none⟩)) (hy : a.eval y = .agg (d.pane r))
    (h : wpList Try.prog ops Q rest (a.put dst undef) (w.setCells b 0 (d.pane r).toList)) : wpList Try.prog ops Q ({ dst, op := .store 33 x y, type := ty, pos, after, guard := none } :: rest) a w :=
  wpList_store_has rfl 33 x y rfl b 33 z _ hx hy hb hz (by kernel_rfl) (by kernel_rfl) h
/-- A Pane is loaded; a Pane is stored into the block made last; a PaneData likewise. -/
theorem wpList_load33 (t : Tmp) (b : Nat) (d : PD) (r : Int) (hx : a.eval (.tmp t) = .pointer (some ⟨b, 0, none⟩)) (hc : Has w b 33 (d.pane r))
    (h : wpList Try.prog ops Q rest (a.put dst (.agg (d.pane r))) w) : wpList Try.prog ops Q ({ dst, op := .load 33 (.tmp t), type := ty, pos, after, guard := none } :: rest) a w :=
  wpList_load_has rfl 33 (.tmp t) rfl b hx _ 33 _ hc Try.underlying33 rfl (by kernel_rfl) h
theorem wpList_load23 (t : Tmp) (b : Nat) (d : PD) (hx : a.eval (.tmp t) = .pointer (some ⟨b, 0, none⟩)) (hc : Has w b 23 d.cells)
    (h : wpList Try.prog ops Q rest (a.put dst (.agg d.cells)) w) : wpList Try.prog ops Q ({ dst, op := .load 23 (.tmp t), type := ty, pos, after, guard := none } :: rest) a w :=
  wpList_load_has rfl 23 (.tmp t) rfl b hx _ 23 _ hc Try.underlying23 rfl (by kernel_rfl) h
theorem wpList_store33 {x y : Operand} {z : Array Value} (b : Nat) (d : PD) (r : Int) (hb : b = w.heap.size) (hx : a.eval x = .pointer (some ⟨b, 0, none⟩)) (hy : a.eval y = .agg (d.pane r)) (hz : z.size = 20)
    (h : wpList Try.prog ops Q rest (a.put dst undef) (w.alloc (.cells (d.pane r) 33))) : wpList Try.prog ops Q ({ dst, op := .store 33 x y, type := ty, pos, after, guard := none } :: rest) a (w.alloc (.cells z 33)) :=
  wpList_store_new rfl 33 x y rfl 33 z _ b hb hx hy hz (by kernel_rfl) (by kernel_rfl) h
theorem wpList_store23 {x y : Operand} {z : Array Value} (b : Nat) (d : PD) (hb : b = w.heap.size) (hx : a.eval x = .pointer (some ⟨b, 0, none⟩)) (hy : a.eval y = .agg d.cells) (hz : z.size = 18)
    (h : wpList Try.prog ops Q rest (a.put dst undef) (w.alloc (.cells d.cells 23))) : wpList Try.prog ops Q ({ dst, op := .store 23 x y, type := ty, pos, after, guard := none } :: rest) a (w.alloc (.cells z 23)) :=
  wpList_store_new rfl 23 x y rfl 23 z _ b hb hx hy hz (by kernel_rfl) (by kernel_rfl) h
end

set_option maxRecDepth 100000 in
set_option maxHeartbeats 400000 in
/-- Revise where next holds what p holds. -/
theorem revise_same (dp dn : PD) (rp rn m : Int) (hs : sameB dn dp = true) (w : World) :
    Calls Try.prog 8 #[.agg (dp.pane rp), .agg (dn.pane rn), .agg (timeC m)] w fun e w' => e = .returned (.agg (dn.pane rp)) ∧ Below w.heap.size w w' := by
  have h1 := fun (d : PD) (r : Int) => pane19 d r
  have h2 := fun (d : PD) (r r' : Int) => paneSet d r r'
  have HS : Hid ((sameB dn dp && rp == rp) = true) := by show (sameB dn dp && rp == rp) = true; simp [hs]
  clear hs
  go_enter Try.func8, Try.ntmps8
  go_wp2_with (first
    | ((with_reducible refine wpList_load33 4 (w.heap.size + 1) dn rp ?_ ?_ ?_); rfl; exact ((has_at (by simp)).alloc _).alloc _)
    | ((with_reducible refine wpList_load33 3 w.heap.size dp rp ?_ ?_ ?_); rfl; exact (((has_new _ _ _).alloc _).alloc _).alloc _)
    | ((with_reducible refine wpList_eql33 dn dp rp rp true ?_ ?_ ?_ ?_); exact HS.out; rfl; rfl)
    | ((with_reducible refine wpList_store33 (w.heap.size + 1 + 1 + 1) dn rp ?_ ?_ ?_ ?_ ?_); simp; rfl; rfl; rfl))
  have hh : Has ((((w.alloc (.cells (dp.pane rp) 33)).alloc (.cells (dn.pane rp) 33)).alloc (.cells (timeC m) 31)).alloc (.cells (dn.pane rp) 33)) (w.heap.size + 1 + 1 + 1) 33 (dn.pane rp) := has_at (by simp)
  exact bodyPost_ret (v := .agg (dn.pane rp)) (results_cell1 Try.results8 (x := ⟨w.heap.size + 1 + 1 + 1, 0, none⟩) (by kernel_rfl) (run_loadVar_has hh Try.underlying33 rfl (by kernel_rfl))) rfl ⟨rfl, ((((Below.refl _ _).alloc (Nat.le_refl _) _).alloc (by simp) _).alloc (by simp; omega) _).alloc (by simp; omega) _⟩

set_option maxRecDepth 100000 in
set_option maxHeartbeats 400000 in
/-- Revise where it does not. -/
theorem revise_diff (dp dn : PD) (rp rn m : Int) (hs : sameB dn dp = false) (hm : -9223372036854775808 ≤ m ∧ m ≤ 9223372036854775807) (hr : -9223372036854775808 ≤ rp ∧ rp < 9223372036854775807) (w : World) :
    Calls Try.prog 8 #[.agg (dp.pane rp), .agg (dn.pane rn), .agg (timeC m)] w fun e w' => e = .returned (.agg (dn.pane (max (rp + 1) m))) ∧ Below w.heap.size w w' := by
  have h1 := fun (d : PD) (r : Int) => pane19 d r
  have h2 := fun (d : PD) (r r' : Int) => paneSet d r r'
  have t0 : (timeC m)[0]? = some (.int .u64 ((62135596800000000 + m) % 1000000 * 1000)) := rfl
  have t1 : (timeC m)[1]? = some (.int .i64 ((62135596800000000 + m) / 1000000)) := rfl
  have t2 : (timeC m)[2]? = some (.pointer none) := rfl
  have HS : Hid ((sameB dn dp && rp == rp) = false) := by show (sameB dn dp && rp == rp) = false; simp [hs]
  obtain ⟨hm1, hm2⟩ := hm
  obtain ⟨hr1, hr2⟩ := hr
  clear hs
  have hw : IntKind.i64.wrap (rp + 1) = rp + 1 := by rw [IntKind.wrap_i64]; omega
  have HM : Hid ((if rp + 1 < m then m else rp + 1) = max (rp + 1) m) := by show (if rp + 1 < m then m else rp + 1) = max (rp + 1) m; omega
  go_enter Try.func8, Try.ntmps8
  go_wp2_with (first
    | ((with_reducible refine wpList_load33 4 (w.heap.size + 1) dn rp ?_ ?_ ?_); rfl; exact ((has_at (by simp)).alloc _).alloc _)
    | ((with_reducible refine wpList_load33 3 w.heap.size dp rp ?_ ?_ ?_); rfl; exact (((has_new _ _ _).alloc _).alloc _).alloc _)
    | ((with_reducible refine wpList_eql33 dn dp rp rp false ?_ ?_ ?_ ?_); exact HS.out; rfl; rfl))
  simp only [Act.put, List.setIfInBounds_toArray, List.set_cons_zero, List.set_cons_succ]
  go_region_held3 (fun w' => w'.cell? ⟨w.heap.size, 19, none⟩ = some (.int .i64 rp) ∧ w'.cell? ⟨w.heap.size + 1 + 1, 0, none⟩ = some (.int .u64 ((62135596800000000 + m) % 1000000 * 1000)) ∧ w'.cell? ⟨w.heap.size + 1 + 1, 1, none⟩ = some (.int .i64 ((62135596800000000 + m) / 1000000)) ∧ w'.cell? ⟨w.heap.size + 1 + 1, 2, none⟩ = some (.pointer none))
    (simp [go_sem, *])
    ((go_at_call 11; refine (unixMicro_any _ _ m (by omega) (by omega) ⟨by omega, by omega⟩ _ ⟨hm1, hm2⟩ (by omega)).mono ?_; rintro e w1 ⟨rfl, hb⟩; obtain ⟨hc, hf⟩ := bcell hb))
  rw [HM.out]
  generalize hR : max (rp + 1) m = R
  have hL : w.heap.size + 4 ≤ w1.heap.size := by have := hb.size; simp at this; omega
  have hB : Below w.heap.size w w1 := (((((Below.refl _ _).alloc (Nat.le_refl _) _).alloc (by simp) _).alloc (by simp; omega) _).alloc (by simp; omega) _).drew.trans (hb.mono (by simp; omega))
  have hN : Has w1 (w.heap.size + 1) 33 (dn.pane rp) := Has.below (Has.drew (((has_at (by simp)).alloc _).alloc _)) hb
  have hZ := Has.below (Has.drew (has_at (t := 33) (b := w.heap.size + 1 + 1 + 1) (by simp))) hb
  have hN' : Has (w1.setCell ⟨w.heap.size + 1, 19, none⟩ (.int .i64 R)) (w.heap.size + 1) 33 (dn.pane R) := hN.setCell 19 (.int .i64 R)
  have hZ' := hZ.other (b' := w.heap.size + 1) (by omega) 19 (.int .i64 R)
  have hB' : Below w.heap.size w (w1.setCell ⟨w.heap.size + 1, 19, none⟩ (.int .i64 R)) := hB.setCell (by simp) _
  clear hb hN hZ hB
  generalize w1.setCell ⟨w.heap.size + 1, 19, none⟩ (.int .i64 R) = w2 at *
  go_wp2_with (first
    | ((with_reducible refine wpList_load33 4 (w.heap.size + 1) dn R ?_ ?_ ?_); rfl; exact hN')
    | ((with_reducible refine wpList_store33_has (w.heap.size + 1 + 1 + 1) dn R hZ' ?_ ?_ ?_ ?_); rfl; rfl; rfl))
  exact bodyPost_ret (v := .agg (dn.pane R)) (results_cell1 Try.results8 (x := ⟨w.heap.size + 1 + 1 + 1, 0, none⟩) (by kernel_rfl) (run_loadVar_has (hZ'.set (dn.pane R) rfl) Try.underlying33 rfl (by kernel_rfl))) rfl ⟨by rw [hR], below_setCells (by omega) _ _ hB'⟩
end Go.Proofs.Qxb6626884a
