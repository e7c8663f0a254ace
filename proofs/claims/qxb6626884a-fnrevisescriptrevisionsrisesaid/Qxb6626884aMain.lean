/-
  THE WALK over FnReviseExactAndSettled.
-/
import Derived.Test.Qxb6626884aTail
import Derived.Test.Qxb6626884aByte1
namespace Go.Proofs.Qxb6626884a
open Go.RowKit

theorem bytes2C (p q : PD) (a b : Int) (w : World) :
    Calls Try.prog 5 #[.agg p.cells, .agg q.cells, .int .i64 a, .int .i64 b] w fun e w' => (∃ r, e = .returned (.bool r)) ∧ Below w.heap.size w w' := bytes2_any p q a b w
theorem bytes1C (p : PD) (w : World) : Calls Try.prog 6 #[.agg p.cells] w fun e w' => (∃ n, e = .returned (.int .i64 n)) ∧ Below w.heap.size w w' := bytes1_any p w
theorem toPaneC (d : PD) (hm : -9223372036854775808 ≤ d.since ∧ d.since ≤ 9223372036854775807) (w : World) :
    Calls Try.prog 7 #[.agg d.cells] w fun e w' => e = .returned (.agg (d.pane d.rev)) ∧ Below w.heap.size w w' := toPane_any d hm w

theorem cells17 (d : PD) : d.cells[17]? = some (.int .i64 d.rev) := rfl
/-- The record at revision 0. -/
def PD.z (d : PD) : PD := { d with rev := 0 }
theorem cellsSet (d : PD) : d.cells.setIfInBounds 17 (.int .i64 0) = d.z.cells := rfl
theorem sameZ (d e : PD) : (sameB d.z e.z && d.z.rev == e.z.rev) = sameB d e := by
  show (sameB d e && (0 : Int) == 0) = sameB d e
  simp
theorem sameB_comm (d e : PD) : sameB d e = sameB e d := by
  simp only [sameB, Bool.beq_comm]

section
variable {a : Act} {w : World} {o : Oper} {Q : Exit → Act → World → Prop}
theorem run_load33 {t b : Nat} {d : PD} {r : Int} (ho : o.op = .load 33 (.tmp t)) (hx : a.eval (.tmp t) = .pointer (some ⟨b, 0, none⟩)) (hc : Has w b 33 (d.pane r)) : (execOp a.eval o).run Try.prog w = .ok (.value (.agg (d.pane r))) w := by
  simp only [execOp, ho, hx, Instr.loadAt, Instr.sureAddr, Sem.run_bind, Sem.run_pure, Result.andThen_ok, run_loadVar_has hc Try.underlying33 rfl (by kernel_rfl)]
theorem run_load23 {t b : Nat} {d : PD} (ho : o.op = .load 23 (.tmp t)) (hx : a.eval (.tmp t) = .pointer (some ⟨b, 0, none⟩)) (hc : Has w b 23 d.cells) : (execOp a.eval o).run Try.prog w = .ok (.value (.agg d.cells)) w := by
  simp only [execOp, ho, hx, Instr.loadAt, Instr.sureAddr, Sem.run_bind, Sem.run_pure, Result.andThen_ok, run_loadVar_has hc Try.underlying23 rfl (by kernel_rfl)]
theorem run_move {x : Operand} {v : Value} (ho : o.op = .move x) (hx : a.eval x = v) : (execOp a.eval o).run Try.prog w = .ok (.value v) w := by
  simp only [execOp, ho, hx, Sem.run_pure]
theorem op_bytes1 {K : Act → World → Prop} {d t : Nat} {q : PD} (hd : o.dst = some d) (ho : o.op = .call { callee := .value (.func 6), args := #[.tmp t], argTypes := #[23] })
    (hx : a.eval (.tmp t) = .agg q.cells) (h : ∀ n w', Below w.heap.size w w' → K (a.put (some d) (.int .i64 n)) w') : Oper.wp Try.prog o a w K Q := by
  refine wp_enter ho enter6 (args := #[.agg q.cells]) (by simp [hx]) ((bytes1C q w).mono ?_)
  rintro e w' ⟨⟨n, rfl⟩, hb⟩
  exact ⟨_, rfl, by rw [hd]; exact h n w' hb⟩
theorem run_add3 {x y : Operand} {n m : Int} (ho : o.op = .binOp .add 3 x y 3) (hx : a.eval x = .int .i64 n) (hy : a.eval y = .int .i64 m) : (execOp a.eval o).run Try.prog w = .ok (.value (.int .i64 (IntKind.i64.wrap (n + m)))) w := by
  simp only [execOp, ho, hx, hy]
  kernel_rfl
theorem run_gtr3 {x : Operand} {n m : Int} (ho : o.op = .binOp .gtr 3 x (.const (.int .i64 m)) 3) (hx : a.eval x = .int .i64 n) : (execOp a.eval o).run Try.prog w = .ok (.value (.bool (decide (m < n)))) w := by
  have hm : a.eval (.const (.int .i64 m)) = .int .i64 m := rfl
  simp only [execOp, ho, hx, hm]
  simp [go_sem]
end

/-- What the first Revise comes to. -/
def Comes (p n : PD) (now : Int) : Prop := ∃ R : Int, (-9223372036854775808 ≤ R ∧ R ≤ 9223372036854775807) ∧
  (∀ w, Calls Try.prog 8 #[.agg (p.pane p.rev), .agg (n.pane n.rev), .agg (timeC now)] w fun e w' => e = .returned (.agg (n.pane R)) ∧ Below w.heap.size w w') ∧
  ((sameB p n = true ∧ R = p.rev) ∨ (sameB p n = false ∧ p.rev < R ∧ now ≤ R ∧ (R - 1 ≤ p.rev ∨ R - 1 < now)))

set_option maxRecDepth 100000 in
set_option maxHeartbeats 1000000 in
theorem main_any (p n : PD) (now later : Int) (hp : -9223372036854775808 ≤ p.since ∧ p.since ≤ 9223372036854775807) (hn : -9223372036854775808 ≤ n.since ∧ n.since ≤ 9223372036854775807)
    (hnow : -9223372036854775808 ≤ now ∧ now ≤ 9223372036854775807) (hlat : -9223372036854775808 ≤ later ∧ later ≤ 9223372036854775807)
    (hpr : -9223372036854775808 ≤ p.rev ∧ p.rev ≤ 9223372036854775807) (hcm : p.rev < 9223372036854775807 → Comes p n now) (w : World) :
    Calls Try.prog 3 #[.agg p.cells, .agg n.cells, .int .i64 now, .int .i64 later] w fun e w' => e = .returned (.bool true) ∧ Below w.heap.size w w' := by
  have h1 := fun (d : PD) (r : Int) => pane19 d r
  have h2 := fun (d : PD) (r r' : Int) => paneSet d r r'
  have h3 := fun (d : PD) => cellsSet d
  have h4 := fun (d : PD) => cells17 d
  have HC : Hid (p.rev < 9223372036854775807 → Comes p n now) := hcm
  clear hcm
  go_enter Try.func3, Try.ntmps3
  go_wp2_with (first
    | ((with_reducible refine wpList_load23 4 w.heap.size p ?_ ?_ ?_); rfl; exact (has_new _ _ _).alloc _)
    | ((with_reducible refine wpList_load23 5 (w.heap.size + 1) n ?_ ?_ ?_); rfl; exact has_at (by simp)))
  refine (bytes2C p n now later _).mono ?_
  rintro e w1 ⟨⟨r0, rfl⟩, hb1⟩
  have hP1 : Has w1 w.heap.size 23 p.cells := ((has_new _ _ _).alloc _).below hb1
  have hN1 : Has w1 (w.heap.size + 1) 23 n.cells := (has_at (by simp)).below hb1
  have hB1 : Below w.heap.size w w1 := (((Below.refl _ _).alloc (Nat.le_refl _) _).alloc (by simp) _).trans (hb1.mono (by simp; omega))
  clear hb1
  cases r0
  · go_wp2
    go_ret
    exact ⟨rfl, hB1⟩
  go_wp2
  -- zzb1Bytes(p) + zzb1Bytes(next)
  refine wp_region_held_drew (S := fun w' => Below w1.heap.size w1 w') (by kernel_rfl) (Below.refl _ _).drew (fun hS => ?_)
  refine wpAnyH_take1 (i := 0) (fuel := 5) (d := some 23) (op := .load 23 (.tmp 4)) (v := .agg p.cells) (by kernel_rfl) (fun _ _ _ _ _ h => h) (by kernel_rfl) (by kernel_rfl) (by kernel_rfl) (fun o ho w' hw' => run_load23 ho (by kernel_rfl) (hP1.below hw')) hS ?_
  refine wpAnyH_take1 (i := 2) (d := some 25) (op := .load 23 (.tmp 5)) (v := .agg n.cells) (by kernel_rfl) (fun _ _ _ _ _ h => h) (by kernel_rfl) (by kernel_rfl) (by kernel_rfl) (fun o ho w' hw' => run_load23 ho (by kernel_rfl) (hN1.below hw')) hS ?_
  refine wpAnyH_one (i := 1) (d := some 24) (op := .call { callee := .value (.func 6), args := #[.tmp 23], argTypes := #[23] }) (by kernel_rfl) (by kernel_rfl) fun o hd ho => op_bytes1 (q := p) hd ho (by kernel_rfl) fun n1 w2 hb2 => ?_
  clear hd ho o
  have hS2 : Below w1.heap.size w1 w2 := hS.trans (hb2.mono hS.size)
  refine ⟨hS2, ?_⟩
  refine wpAnyH_one (i := 3) (d := some 26) (op := .call { callee := .value (.func 6), args := #[.tmp 25], argTypes := #[23] }) (by kernel_rfl) (by kernel_rfl) fun o hd ho => op_bytes1 (q := n) hd ho (by kernel_rfl) fun n2 w3 hb3 => ?_
  clear hd ho o
  have hS3 : Below w1.heap.size w1 w3 := hS2.trans (hb3.mono hS2.size)
  refine ⟨hS3, ?_⟩
  refine wpAnyH_take1 (i := 4) (d := some 27) (op := .binOp .add 3 (.tmp 24) (.tmp 26) 3) (v := .int .i64 (IntKind.i64.wrap (n1 + n2))) (by kernel_rfl) (fun _ _ _ _ _ h => h) (by kernel_rfl) (by kernel_rfl) (by kernel_rfl) (fun o ho w' hw' => run_add3 ho (by kernel_rfl) (by kernel_rfl)) hS3 ?_
  refine wpAnyH_take1 (i := 5) (d := some 28) (op := .binOp .gtr 3 (.tmp 27) (.const (.int .i64 1048576)) 3) (v := .bool (decide (1048576 < IntKind.i64.wrap (n1 + n2)))) (by kernel_rfl) (fun _ _ _ _ _ h => h) (by kernel_rfl) (by kernel_rfl) (by kernel_rfl) (fun o ho w' hw' => run_gtr3 ho (by kernel_rfl)) hS3 ?_
  refine wpAnyH_done (by kernel_rfl) ?_ _
  simp only [Act.put, List.setIfInBounds_toArray, List.set_cons_zero, List.set_cons_succ]
  generalize decide (1048576 < IntKind.i64.wrap (n1 + n2)) = q
  have hP3 := hP1.below hS3
  have hN3 := hN1.below hS3
  have hB3 : Below w.heap.size w w3 := hB1.trans (hS3.mono hB1.size)
  have hc3 : w3.cell? ⟨w.heap.size, 17, none⟩ = some (.int .i64 p.rev) := hP3.cell 17
  clear hP1 hN1 hB1 hS hS2 hS3 hb2 hb3
  cases q
  case true =>
    go_wp2
    go_ret
    exact ⟨rfl, hB3⟩
  by_cases hmx : p.rev = 9223372036854775807
  · have hmb : (p.rev == 9223372036854775807) = true := by simpa using hmx
    clear hmx
    go_wp2
    go_ret
    exact ⟨rfl, hB3⟩
  have hmb : (p.rev == 9223372036854775807) = false := by simpa using hmx
  obtain ⟨R, hR, hc, hcase⟩ := HC.out (by omega)
  have HR : Hid (∀ w, Calls Try.prog 8 #[.agg (p.pane p.rev), .agg (n.pane n.rev), .agg (timeC now)] w fun e w' => e = .returned (.agg (n.pane R)) ∧ Below w.heap.size w w') := hc
  have HK : Hid ((sameB p n = true ∧ R = p.rev) ∨ (sameB p n = false ∧ p.rev < R ∧ now ≤ R ∧ (R - 1 ≤ p.rev ∨ R - 1 < now))) := hcase
  clear hmx HC hc hcase
  -- pp := zzb1ToPane(p)
  go_wp2_with (first
    | ((with_reducible refine wpList_load23 4 w.heap.size p ?_ ?_ ?_); rfl; exact hP3))
  refine (toPaneC p hp _).mono ?_
  rintro e w4 ⟨rfl, hb4⟩
  have hP4 := hP3.below hb4
  have hN4 := hN3.below hb4
  have hB4 : Below w.heap.size w w4 := hB3.trans (hb4.mono hB3.size)
  clear hP3 hN3 hB3 hc3 hb4
  -- nn := zzb1ToPane(next)
  go_wp2_with (first
    | ((with_reducible refine wpList_store33 w4.heap.size p p.rev ?_ ?_ ?_ ?_ ?_); rfl; rfl; rfl; rfl)
    | ((with_reducible refine wpList_load23 5 (w.heap.size + 1) n ?_ ?_ ?_); rfl; exact hN4.alloc _))
  refine (toPaneC n hn _).mono ?_
  rintro e w5 ⟨rfl, hb5⟩
  have hP5 := (hP4.alloc _).below hb5
  have hN5 := (hN4.alloc _).below hb5
  have hA5 := (has_new w4 33 (p.pane p.rev)).below hb5
  have hB5 : Below w.heap.size w w5 := (hB4.alloc hB4.size _).trans (hb5.mono (by simp; exact Nat.le_succ_of_le hB4.size))
  clear hP4 hN4 hB4 hb5
  generalize w4.heap.size = b9 at *
  go_wp2_with (first
    | ((with_reducible refine wpList_store33 w5.heap.size n n.rev ?_ ?_ ?_ ?_ ?_); rfl; rfl; rfl; rfl))
  have hP6 := hP5.alloc (.cells (n.pane n.rev) 33)
  have hN6 := hN5.alloc (.cells (n.pane n.rev) 33)
  have hA6 := hA5.alloc (.cells (n.pane n.rev) 33)
  have hC6 := has_new w5 33 (n.pane n.rev)
  have hB6 : Below w.heap.size w (w5.alloc (.cells (n.pane n.rev) 33)) := hB5.alloc hB5.size _
  clear hP5 hN5 hA5 hB5
  generalize w5.heap.size = b10 at *
  generalize w5.alloc (.cells (n.pane n.rev) 33) = w6 at *
  -- r := state.Revise(pp, nn, zzb1TimeAtMicro(nowMicro))
  simp only [Act.put]
  refine wp_region_held_drew (S := fun w' => Below w6.heap.size w6 w') (by kernel_rfl) (Below.refl _ _).drew (fun hS => ?_)
  refine wpAnyH_take1 (i := 0) (fuel := 6) (d := some 36) (op := .load 33 (.tmp 9)) (v := .agg (p.pane p.rev)) (by kernel_rfl) (fun _ _ _ _ _ h => h) (by kernel_rfl) (by kernel_rfl) (by kernel_rfl) (fun o ho w' hw' => run_load33 ho (by kernel_rfl) (hA6.below hw')) hS ?_
  refine wpAnyH_take1 (i := 1) (d := some 37) (op := .load 33 (.tmp 10)) (v := .agg (n.pane n.rev)) (by kernel_rfl) (fun _ _ _ _ _ h => h) (by kernel_rfl) (by kernel_rfl) (by kernel_rfl) (fun o ho w' hw' => run_load33 ho (by kernel_rfl) (hC6.below hw')) hS ?_
  refine wpAnyH_take1 (i := 2) (d := some 38) (op := .move (.tmp 2)) (v := .int .i64 now) (by kernel_rfl) (fun _ _ _ _ _ h => h) (by kernel_rfl) (by kernel_rfl) (by kernel_rfl) (fun o ho w' hw' => run_move ho (by kernel_rfl)) hS ?_
  refine rev_tail (i3 := 3) (i4 := 4) (i5 := 5) (i6 := 6) (tm := 38) (tp := 36) (tn := 37) (d39 := 39) (d40 := 40) (d11 := 11) (d := n) (r := R)
    ⟨by kernel_rfl, by kernel_rfl, by kernel_rfl, by kernel_rfl, by kernel_rfl, by kernel_rfl, by kernel_rfl, by kernel_rfl, by kernel_rfl, by kernel_rfl, by kernel_rfl, by kernel_rfl, by kernel_rfl, by kernel_rfl, by kernel_rfl, by kernel_rfl, by kernel_rfl⟩
    hnow HR.out hS (of_decide_eq_true (by kernel_rfl)) (by kernel_rfl) (by kernel_rfl) (by kernel_rfl) fun b11 w7 hb11 hR7 hS7 => ?_
  simp only [Act.put, List.setIfInBounds_toArray, List.set_cons_zero, List.set_cons_succ]
  have hP7 := hP6.below hS7
  have hN7 := hN6.below hS7
  have hC7 := hC6.below hS7
  have hB7 : Below w.heap.size w w7 := hB6.trans (hS7.mono hB6.size)
  clear hP6 hN6 hA6 hB6 hC6 hS hS7
  have HN : Hid ((!(sameB n n && R == R)) = false) := by show (!(sameB n n && R == R)) = false; simp [sameB_self]
  have hc8 : ∀ c, (w7.alloc (.cells c 33)).cell? ⟨b11, 19, none⟩ = some (.int .i64 R) := fun c => (hR7.alloc _).cell 19
  have hc10 : ∀ c d e, (((w7.alloc (.cells c 33)).alloc (.cells d 23)).alloc (.cells e 23)).cell? ⟨b11, 19, none⟩ = some (.int .i64 R) := fun c d e => (((hR7.alloc _).alloc _).alloc _).cell 19
  have hp10 : ∀ c d e, (((w7.alloc (.cells c 33)).alloc (.cells d 23)).alloc (.cells e 23)).cell? ⟨w.heap.size, 17, none⟩ = some (.int .i64 p.rev) := fun c d e => (((hP7.alloc _).alloc _).alloc _).cell 17
  rcases HK.out with ⟨hsm, hRp⟩ | ⟨hsm, hlt, hge, hmin⟩
  · have HZ : Hid ((sameB p.z n.z && p.z.rev == n.z.rev) = true) := (sameZ p n).trans hsm
    have hnb : (R != p.rev) = false := by simp [hRp]
    clear hsm hRp HK
    go_wp2_with (first
      | ((with_reducible refine wpList_load33 10 b10 n n.rev ?_ ?_ ?_); rfl; exact hC7)
      | ((with_reducible refine wpList_store33 w7.heap.size n n.rev ?_ ?_ ?_ ?_ ?_); rfl; rfl; rfl; rfl)
      | ((with_reducible refine wpList_load33 11 b11 n R ?_ ?_ ?_); rfl; exact hR7.alloc _)
      | ((with_reducible refine wpList_load33 12 w7.heap.size n R ?_ ?_ ?_); rfl; exact has_new _ _ _)
      | ((with_reducible refine wpList_neq33 n n R R false ?_ ?_ ?_ ?_); exact HN.out; rfl; rfl)
      | ((with_reducible refine wpList_load23 4 w.heap.size p ?_ ?_ ?_); rfl; exact hP7.alloc _)
      | ((with_reducible refine wpList_store23 (w7.heap.size + 1) p ?_ ?_ ?_ ?_ ?_); simp; rfl; rfl; rfl)
      | ((with_reducible refine wpList_load23 5 (w.heap.size + 1) n ?_ ?_ ?_); rfl; exact (hN7.alloc _).alloc _)
      | ((with_reducible refine wpList_store23 (w7.heap.size + 1 + 1) n ?_ ?_ ?_ ?_ ?_); simp; rfl; rfl; rfl)
      | ((with_reducible refine wpList_load23 13 (w7.heap.size + 1) p.z ?_ ?_ ?_); rfl; exact (has_at (by simp)).alloc _)
      | ((with_reducible refine wpList_load23 14 (w7.heap.size + 1 + 1) n.z ?_ ?_ ?_); rfl; exact has_at (by simp))
      | ((with_reducible refine wpList_eql23 p.z n.z true ?_ ?_ ?_ ?_); exact HZ.out; rfl; rfl))
    have hsz7 := hB7.size
    have hR8 := ((hR7.alloc (.cells (n.pane R) 33)).alloc (.cells p.z.cells 23)).alloc (.cells n.z.cells 23)
    have hC8 := ((hC7.alloc (.cells (n.pane R) 33)).alloc (.cells p.z.cells 23)).alloc (.cells n.z.cells 23)
    have hB8 : Below w.heap.size w (((w7.alloc (.cells (n.pane R) 33)).alloc (.cells p.z.cells 23)).alloc (.cells n.z.cells 23)) := ((hB7.alloc hsz7 _).alloc (by simp; omega) _).alloc (by simp; omega) _
    clear hc8 hc10 hp10 hR7 hP7 hN7 hC7 hB7 hsz7 HN HZ
    generalize ((w7.alloc (.cells (n.pane R) 33)).alloc (.cells p.z.cells 23)).alloc (.cells n.z.cells 23) = w8 at *
    -- s := state.Revise(r, nn, zzb1TimeAtMicro(laterMicro))
    refine wp_region_held_drew (S := fun w' => Below w8.heap.size w8 w') (by kernel_rfl) (Below.refl _ _).drew (fun hS => ?_)
    refine wpAnyH_take1 (i := 0) (fuel := 6) (d := some 81) (op := .load 33 (.tmp 11)) (v := .agg (n.pane R)) (by kernel_rfl) (fun _ _ _ _ _ h => h) (by kernel_rfl) (by kernel_rfl) (by kernel_rfl) (fun o ho w' hw' => run_load33 ho (by kernel_rfl) (hR8.below hw')) hS ?_
    refine wpAnyH_take1 (i := 1) (d := some 82) (op := .load 33 (.tmp 10)) (v := .agg (n.pane n.rev)) (by kernel_rfl) (fun _ _ _ _ _ h => h) (by kernel_rfl) (by kernel_rfl) (by kernel_rfl) (fun o ho w' hw' => run_load33 ho (by kernel_rfl) (hC8.below hw')) hS ?_
    refine wpAnyH_take1 (i := 2) (d := some 83) (op := .move (.tmp 3)) (v := .int .i64 later) (by kernel_rfl) (fun _ _ _ _ _ h => h) (by kernel_rfl) (by kernel_rfl) (by kernel_rfl) (fun o ho w' hw' => run_move ho (by kernel_rfl)) hS ?_
    refine rev_tail (i3 := 3) (i4 := 4) (i5 := 5) (i6 := 6) (tm := 83) (tp := 81) (tn := 82) (d39 := 84) (d40 := 85) (d11 := 16) (d := n) (r := R)
      ⟨by kernel_rfl, by kernel_rfl, by kernel_rfl, by kernel_rfl, by kernel_rfl, by kernel_rfl, by kernel_rfl, by kernel_rfl, by kernel_rfl, by kernel_rfl, by kernel_rfl, by kernel_rfl, by kernel_rfl, by kernel_rfl, by kernel_rfl, by kernel_rfl, by kernel_rfl⟩
      hlat (fun w => revise_same n n R n.rev later (sameB_self n) w) hS (of_decide_eq_true (by kernel_rfl)) (by kernel_rfl) (by kernel_rfl) (by kernel_rfl) fun b16 w9 hb16 hQ9 hS9 => ?_
    simp only [Act.put, List.setIfInBounds_toArray, List.set_cons_zero, List.set_cons_succ]
    have hR9 := hR8.below hS9
    have hB9 : Below w.heap.size w w9 := hB8.trans (hS9.mono hB8.size)
    have HE : Hid ((sameB n n && R == R) = true) := by show (sameB n n && R == R) = true; simp [sameB_self]
    clear hR8 hC8 hB8 hS hS9
    go_wp2_with (first
      | ((with_reducible refine wpList_load33 16 b16 n R ?_ ?_ ?_); rfl; exact hQ9)
      | ((with_reducible refine wpList_load33 11 b11 n R ?_ ?_ ?_); rfl; exact hR9)
      | ((with_reducible refine wpList_eql33 n n R R true ?_ ?_ ?_ ?_); exact HE.out; rfl; rfl))
    go_ret
    exact ⟨rfl, hB9⟩
  · have HZ : Hid ((sameB p.z n.z && p.z.rev == n.z.rev) = false) := (sameZ p n).trans hsm
    clear hsm HK
    obtain ⟨hR1, hR2⟩ := hR
    obtain ⟨hpr1, hpr2⟩ := hpr
    obtain ⟨hnow1, hnow2⟩ := hnow
    have hd1 : decide (R ≤ p.rev) = false := by simp; omega
    have hd2 : decide (R < now) = false := by simp; omega
    by_cases hq : R - 1 ≤ p.rev
    · have hd3 : decide (p.rev < R - 1) = false := by simp; omega
      clear hmin
      go_wp2_with (first
        | ((with_reducible refine wpList_load33 10 b10 n n.rev ?_ ?_ ?_); rfl; exact hC7)
        | ((with_reducible refine wpList_store33 w7.heap.size n n.rev ?_ ?_ ?_ ?_ ?_); rfl; rfl; rfl; rfl)
        | ((with_reducible refine wpList_load33 11 b11 n R ?_ ?_ ?_); rfl; exact hR7.alloc _)
        | ((with_reducible refine wpList_load33 12 w7.heap.size n R ?_ ?_ ?_); rfl; exact has_new _ _ _)
        | ((with_reducible refine wpList_neq33 n n R R false ?_ ?_ ?_ ?_); exact HN.out; rfl; rfl)
        | ((with_reducible refine wpList_load23 4 w.heap.size p ?_ ?_ ?_); rfl; exact hP7.alloc _)
        | ((with_reducible refine wpList_store23 (w7.heap.size + 1) p ?_ ?_ ?_ ?_ ?_); simp; rfl; rfl; rfl)
        | ((with_reducible refine wpList_load23 5 (w.heap.size + 1) n ?_ ?_ ?_); rfl; exact (hN7.alloc _).alloc _)
        | ((with_reducible refine wpList_store23 (w7.heap.size + 1 + 1) n ?_ ?_ ?_ ?_ ?_); simp; rfl; rfl; rfl)
        | ((with_reducible refine wpList_load23 13 (w7.heap.size + 1) p.z ?_ ?_ ?_); rfl; exact (has_at (by simp)).alloc _)
        | ((with_reducible refine wpList_load23 14 (w7.heap.size + 1 + 1) n.z ?_ ?_ ?_); rfl; exact has_at (by simp))
        | ((with_reducible refine wpList_eql23 p.z n.z false ?_ ?_ ?_ ?_); exact HZ.out; rfl; rfl))
      have hsz7 := hB7.size
      have hR8 := ((hR7.alloc (.cells (n.pane R) 33)).alloc (.cells p.z.cells 23)).alloc (.cells n.z.cells 23)
      have hC8 := ((hC7.alloc (.cells (n.pane R) 33)).alloc (.cells p.z.cells 23)).alloc (.cells n.z.cells 23)
      have hB8 : Below w.heap.size w (((w7.alloc (.cells (n.pane R) 33)).alloc (.cells p.z.cells 23)).alloc (.cells n.z.cells 23)) := ((hB7.alloc hsz7 _).alloc (by simp; omega) _).alloc (by simp; omega) _
      clear hc8 hc10 hp10 hR7 hP7 hN7 hC7 hB7 hsz7 HN HZ
      generalize ((w7.alloc (.cells (n.pane R) 33)).alloc (.cells p.z.cells 23)).alloc (.cells n.z.cells 23) = w8 at *
      -- s := state.Revise(r, nn, zzb1TimeAtMicro(laterMicro))
      refine wp_region_held_drew (S := fun w' => Below w8.heap.size w8 w') (by kernel_rfl) (Below.refl _ _).drew (fun hS => ?_)
      refine wpAnyH_take1 (i := 0) (fuel := 6) (d := some 81) (op := .load 33 (.tmp 11)) (v := .agg (n.pane R)) (by kernel_rfl) (fun _ _ _ _ _ h => h) (by kernel_rfl) (by kernel_rfl) (by kernel_rfl) (fun o ho w' hw' => run_load33 ho (by kernel_rfl) (hR8.below hw')) hS ?_
      refine wpAnyH_take1 (i := 1) (d := some 82) (op := .load 33 (.tmp 10)) (v := .agg (n.pane n.rev)) (by kernel_rfl) (fun _ _ _ _ _ h => h) (by kernel_rfl) (by kernel_rfl) (by kernel_rfl) (fun o ho w' hw' => run_load33 ho (by kernel_rfl) (hC8.below hw')) hS ?_
      refine wpAnyH_take1 (i := 2) (d := some 83) (op := .move (.tmp 3)) (v := .int .i64 later) (by kernel_rfl) (fun _ _ _ _ _ h => h) (by kernel_rfl) (by kernel_rfl) (by kernel_rfl) (fun o ho w' hw' => run_move ho (by kernel_rfl)) hS ?_
      refine rev_tail (i3 := 3) (i4 := 4) (i5 := 5) (i6 := 6) (tm := 83) (tp := 81) (tn := 82) (d39 := 84) (d40 := 85) (d11 := 16) (d := n) (r := R)
        ⟨by kernel_rfl, by kernel_rfl, by kernel_rfl, by kernel_rfl, by kernel_rfl, by kernel_rfl, by kernel_rfl, by kernel_rfl, by kernel_rfl, by kernel_rfl, by kernel_rfl, by kernel_rfl, by kernel_rfl, by kernel_rfl, by kernel_rfl, by kernel_rfl, by kernel_rfl⟩
        hlat (fun w => revise_same n n R n.rev later (sameB_self n) w) hS (of_decide_eq_true (by kernel_rfl)) (by kernel_rfl) (by kernel_rfl) (by kernel_rfl) fun b16 w9 hb16 hQ9 hS9 => ?_
      simp only [Act.put, List.setIfInBounds_toArray, List.set_cons_zero, List.set_cons_succ]
      have hR9 := hR8.below hS9
      have hB9 : Below w.heap.size w w9 := hB8.trans (hS9.mono hB8.size)
      have HE : Hid ((sameB n n && R == R) = true) := by show (sameB n n && R == R) = true; simp [sameB_self]
      clear hR8 hC8 hB8 hS hS9
      go_wp2_with (first
        | ((with_reducible refine wpList_load33 16 b16 n R ?_ ?_ ?_); rfl; exact hQ9)
        | ((with_reducible refine wpList_load33 11 b11 n R ?_ ?_ ?_); rfl; exact hR9)
        | ((with_reducible refine wpList_eql33 n n R R true ?_ ?_ ?_ ?_); exact HE.out; rfl; rfl))
      go_ret
      exact ⟨rfl, hB9⟩

    · have hd3 : decide (p.rev < R - 1) = true := by simp; omega
      have hd4 : decide (now ≤ R - 1) = false := by simp; omega
      clear hmin
      go_wp2_with (first
        | ((with_reducible refine wpList_load33 10 b10 n n.rev ?_ ?_ ?_); rfl; exact hC7)
        | ((with_reducible refine wpList_store33 w7.heap.size n n.rev ?_ ?_ ?_ ?_ ?_); rfl; rfl; rfl; rfl)
        | ((with_reducible refine wpList_load33 11 b11 n R ?_ ?_ ?_); rfl; exact hR7.alloc _)
        | ((with_reducible refine wpList_load33 12 w7.heap.size n R ?_ ?_ ?_); rfl; exact has_new _ _ _)
        | ((with_reducible refine wpList_neq33 n n R R false ?_ ?_ ?_ ?_); exact HN.out; rfl; rfl)
        | ((with_reducible refine wpList_load23 4 w.heap.size p ?_ ?_ ?_); rfl; exact hP7.alloc _)
        | ((with_reducible refine wpList_store23 (w7.heap.size + 1) p ?_ ?_ ?_ ?_ ?_); simp; rfl; rfl; rfl)
        | ((with_reducible refine wpList_load23 5 (w.heap.size + 1) n ?_ ?_ ?_); rfl; exact (hN7.alloc _).alloc _)
        | ((with_reducible refine wpList_store23 (w7.heap.size + 1 + 1) n ?_ ?_ ?_ ?_ ?_); simp; rfl; rfl; rfl)
        | ((with_reducible refine wpList_load23 13 (w7.heap.size + 1) p.z ?_ ?_ ?_); rfl; exact (has_at (by simp)).alloc _)
        | ((with_reducible refine wpList_load23 14 (w7.heap.size + 1 + 1) n.z ?_ ?_ ?_); rfl; exact has_at (by simp))
        | ((with_reducible refine wpList_eql23 p.z n.z false ?_ ?_ ?_ ?_); exact HZ.out; rfl; rfl))
      have hsz7 := hB7.size
      have hR8 := ((hR7.alloc (.cells (n.pane R) 33)).alloc (.cells p.z.cells 23)).alloc (.cells n.z.cells 23)
      have hC8 := ((hC7.alloc (.cells (n.pane R) 33)).alloc (.cells p.z.cells 23)).alloc (.cells n.z.cells 23)
      have hB8 : Below w.heap.size w (((w7.alloc (.cells (n.pane R) 33)).alloc (.cells p.z.cells 23)).alloc (.cells n.z.cells 23)) := ((hB7.alloc hsz7 _).alloc (by simp; omega) _).alloc (by simp; omega) _
      clear hc8 hc10 hp10 hR7 hP7 hN7 hC7 hB7 hsz7 HN HZ
      generalize ((w7.alloc (.cells (n.pane R) 33)).alloc (.cells p.z.cells 23)).alloc (.cells n.z.cells 23) = w8 at *
      -- s := state.Revise(r, nn, zzb1TimeAtMicro(laterMicro))
      refine wp_region_held_drew (S := fun w' => Below w8.heap.size w8 w') (by kernel_rfl) (Below.refl _ _).drew (fun hS => ?_)
      refine wpAnyH_take1 (i := 0) (fuel := 6) (d := some 81) (op := .load 33 (.tmp 11)) (v := .agg (n.pane R)) (by kernel_rfl) (fun _ _ _ _ _ h => h) (by kernel_rfl) (by kernel_rfl) (by kernel_rfl) (fun o ho w' hw' => run_load33 ho (by kernel_rfl) (hR8.below hw')) hS ?_
      refine wpAnyH_take1 (i := 1) (d := some 82) (op := .load 33 (.tmp 10)) (v := .agg (n.pane n.rev)) (by kernel_rfl) (fun _ _ _ _ _ h => h) (by kernel_rfl) (by kernel_rfl) (by kernel_rfl) (fun o ho w' hw' => run_load33 ho (by kernel_rfl) (hC8.below hw')) hS ?_
      refine wpAnyH_take1 (i := 2) (d := some 83) (op := .move (.tmp 3)) (v := .int .i64 later) (by kernel_rfl) (fun _ _ _ _ _ h => h) (by kernel_rfl) (by kernel_rfl) (by kernel_rfl) (fun o ho w' hw' => run_move ho (by kernel_rfl)) hS ?_
      refine rev_tail (i3 := 3) (i4 := 4) (i5 := 5) (i6 := 6) (tm := 83) (tp := 81) (tn := 82) (d39 := 84) (d40 := 85) (d11 := 16) (d := n) (r := R)
        ⟨by kernel_rfl, by kernel_rfl, by kernel_rfl, by kernel_rfl, by kernel_rfl, by kernel_rfl, by kernel_rfl, by kernel_rfl, by kernel_rfl, by kernel_rfl, by kernel_rfl, by kernel_rfl, by kernel_rfl, by kernel_rfl, by kernel_rfl, by kernel_rfl, by kernel_rfl⟩
        hlat (fun w => revise_same n n R n.rev later (sameB_self n) w) hS (of_decide_eq_true (by kernel_rfl)) (by kernel_rfl) (by kernel_rfl) (by kernel_rfl) fun b16 w9 hb16 hQ9 hS9 => ?_
      simp only [Act.put, List.setIfInBounds_toArray, List.set_cons_zero, List.set_cons_succ]
      have hR9 := hR8.below hS9
      have hB9 : Below w.heap.size w w9 := hB8.trans (hS9.mono hB8.size)
      have HE : Hid ((sameB n n && R == R) = true) := by show (sameB n n && R == R) = true; simp [sameB_self]
      clear hR8 hC8 hB8 hS hS9
      go_wp2_with (first
        | ((with_reducible refine wpList_load33 16 b16 n R ?_ ?_ ?_); rfl; exact hQ9)
        | ((with_reducible refine wpList_load33 11 b11 n R ?_ ?_ ?_); rfl; exact hR9)
        | ((with_reducible refine wpList_eql33 n n R R true ?_ ?_ ?_ ?_); exact HE.out; rfl; rfl))
      go_ret
      exact ⟨rfl, hB9⟩

end Go.Proofs.Qxb6626884a
