/-
  '==' between two records: as their fields are.
-/
import Derived.Test.Qxb6626884aPane
namespace Go.Proofs.Qxb6626884a
open Go.RowKit

/-- The cells of the time m microseconds behind the epoch. -/
def timeC (m : Int) : Array Value := #[.int .u64 ((62135596800000000 + m) % 1000000 * 1000), .int .i64 ((62135596800000000 + m) / 1000000), .pointer none]

/-- Two records hold the same, revision aside. -/
def sameB (d e : PD) : Bool := d.st == e.st && (d.re == e.re && (d.seen == e.seen && (d.s3.toList == e.s3.toList && (d.s4.toList == e.s4.toList && (d.s5.toList == e.s5.toList && (d.since == e.since && (d.s7.toList == e.s7.toList && (d.s8.toList == e.s8.toList && (d.s9.toList == e.s9.toList && (d.s10.toList == e.s10.toList && (d.s11.toList == e.s11.toList && (d.s12.toList == e.s12.toList && (d.tf == e.tf && (d.s14.toList == e.s14.toList && (d.s15.toList == e.s15.toList && d.s16.toList == e.s16.toList)))))))))))))))

theorem sameB_self (d : PD) : sameB d d = true := by simp [sameB]

section
variable {P : Program} (w : World)
theorem eqFields_nil (d : Nat) (xs ys : Array Value) : (Op.eqFields d xs ys []).run P w = .ok true w := rfl
theorem eqFields_cons {d : Nat} {xs ys : Array Value} {f : Field} {fs : List Field} {a b : Value} {r q : Bool} {w : World} (hn : (f.name == "_") = false) (ha : (part f.type xs f.offset).run P w = .ok a w) (hb : (part f.type ys f.offset).run P w = .ok b w)
    (hr : (Op.equalIn d f.type a b).run P w = .ok r w) (hq : (Op.eqFields d xs ys fs).run P w = .ok q w) : (Op.eqFields d xs ys (f :: fs)).run P w = .ok (r && q) w := by
  have hn' : f.name ≠ "_" := by simpa using hn
  unfold Op.eqFields
  rw [if_pos hn']
  simp only [Sem.run_bind, ha, hb, hr, Result.andThen_ok]
  cases r
  · simp
  · simpa using hq
theorem part_one {t : TypeId} {d : TypeDesc} {cs : Array Value} {off : Nat} {v : Value} (hu : P.underlying t = some d) (hd : d.isRow = false) (hv : cs[off]? = some v) : (part t cs off).run P w = .ok v w := by
  have hagg : (isAgg t).run P w = .ok false w := by
    unfold isAgg
    rw [Sem.run_bind, run_underlying hu w]
    cases d <;> simp_all
  simp [part, hagg, hv]
end

theorem eql31 (w : World) (a b : Int) : (Op.equalIn 9999 31 (.agg (timeC a)) (.agg (timeC b))).run Try.prog w = .ok (a == b) w := by
  rw [run_equalIn_struct w 9998 31 _ _ (by kernel_rfl) (by kernel_rfl)]
  have e : (Try.prog.fieldsOf 31).toList = [⟨"wall", 28, 0, false, "", "time", 0⟩, ⟨"ext", 2, 1, false, "", "time", 8⟩, ⟨"loc", 29, 2, false, "", "time", 16⟩] := by kernel_rfl
  rw [e]
  have h : (a == b) = (((62135596800000000 + a) % 1000000 * 1000 == (62135596800000000 + b) % 1000000 * 1000) && (((62135596800000000 + a) / 1000000 == (62135596800000000 + b) / 1000000) && (true && true))) := by
    rw [Bool.eq_iff_iff]; simp; omega
  rw [h]
  refine eqFields_cons rfl (part_one w Try.underlying28 rfl rfl) (part_one w Try.underlying28 rfl rfl) (run_equalIn_int w _ 28 _ _ _ _ Try.underlying28) ?_
  refine eqFields_cons rfl (part_one w Try.underlying2 rfl rfl) (part_one w Try.underlying2 rfl rfl) (run_equalIn_int w _ 2 _ _ _ _ Try.underlying2) ?_
  refine eqFields_cons rfl (part_one w Try.underlying29 rfl rfl) (part_one w Try.underlying29 rfl rfl) (by kernel_rfl) ?_
  exact eqFields_nil w _ _ _
theorem part_time (w : World) (d : PD) (r : Int) : (part 31 (d.pane r) 6).run Try.prog w = .ok (.agg (timeC d.since)) w := by kernel_rfl

theorem eql33 (w : World) (d e : PD) (r r' : Int) : (Op.equalIn 10000 33 (.agg (d.pane r)) (.agg (e.pane r'))).run Try.prog w = .ok (sameB d e && r == r') w := by
  rw [run_equalIn_struct w 9999 33 _ _ (by kernel_rfl) (by kernel_rfl)]
  have ef : (Try.prog.fieldsOf 33).toList = [⟨"State", 26, 0, false, "", "", 0⟩, ⟨"Reason", 27, 1, false, "", "", 8⟩, ⟨"Seen", 4, 2, false, "", "", 16⟩, ⟨"Session", 9, 3, false, "", "", 24⟩, ⟨"Cwd", 9, 4, false, "", "", 40⟩, ⟨"Event", 9, 5, false, "", "", 56⟩, ⟨"Since", 31, 6, false, "", "", 72⟩, ⟨"PermissionCalls", 9, 9, false, "", "", 96⟩, ⟨"Asks", 9, 10, false, "", "", 112⟩, ⟨"PermissionAsks", 9, 11, false, "", "", 128⟩, ⟨"QuestionCalls", 9, 12, false, "", "", 144⟩, ⟨"QuestionAsks", 9, 13, false, "", "", 160⟩, ⟨"Transcript", 9, 14, false, "", "", 176⟩, ⟨"TranscriptFrom", 2, 15, false, "", "", 192⟩, ⟨"Agent", 9, 16, false, "", "", 200⟩, ⟨"URL", 9, 17, false, "", "", 216⟩, ⟨"Log", 9, 18, false, "", "", 232⟩, ⟨"Revision", 2, 19, false, "", "", 248⟩] := by kernel_rfl
  rw [ef]
  have h : (sameB d e && r == r') = (d.st == e.st && (d.re == e.re && (d.seen == e.seen && (d.s3.toList == e.s3.toList && (d.s4.toList == e.s4.toList && (d.s5.toList == e.s5.toList && (d.since == e.since && (d.s7.toList == e.s7.toList && (d.s8.toList == e.s8.toList && (d.s9.toList == e.s9.toList && (d.s10.toList == e.s10.toList && (d.s11.toList == e.s11.toList && (d.s12.toList == e.s12.toList && (d.tf == e.tf && (d.s14.toList == e.s14.toList && (d.s15.toList == e.s15.toList && (d.s16.toList == e.s16.toList && (r == r' && true)))))))))))))))))) := by
    simp only [sameB, Bool.and_assoc, Bool.and_true]
  rw [h]
  refine eqFields_cons rfl (part_one w Try.underlying26 rfl rfl) (part_one w Try.underlying26 rfl rfl) (run_equalIn_int w _ 26 _ _ _ _ Try.underlying26) ?_
  refine eqFields_cons rfl (part_one w Try.underlying27 rfl rfl) (part_one w Try.underlying27 rfl rfl) (run_equalIn_int w _ 27 _ _ _ _ Try.underlying27) ?_
  refine eqFields_cons rfl (part_one w Try.underlying4 rfl rfl) (part_one w Try.underlying4 rfl rfl) (run_equalIn_bool' w _ 4 _ _ Try.underlying4) ?_
  refine eqFields_cons rfl (part_one w Try.underlying9 rfl rfl) (part_one w Try.underlying9 rfl rfl) (run_equalIn_string w _ 9 _ _ Try.underlying9) ?_
  refine eqFields_cons rfl (part_one w Try.underlying9 rfl rfl) (part_one w Try.underlying9 rfl rfl) (run_equalIn_string w _ 9 _ _ Try.underlying9) ?_
  refine eqFields_cons rfl (part_one w Try.underlying9 rfl rfl) (part_one w Try.underlying9 rfl rfl) (run_equalIn_string w _ 9 _ _ Try.underlying9) ?_
  refine eqFields_cons rfl (part_time w _ _) (part_time w _ _) (eql31 w _ _) ?_
  refine eqFields_cons rfl (part_one w Try.underlying9 rfl rfl) (part_one w Try.underlying9 rfl rfl) (run_equalIn_string w _ 9 _ _ Try.underlying9) ?_
  refine eqFields_cons rfl (part_one w Try.underlying9 rfl rfl) (part_one w Try.underlying9 rfl rfl) (run_equalIn_string w _ 9 _ _ Try.underlying9) ?_
  refine eqFields_cons rfl (part_one w Try.underlying9 rfl rfl) (part_one w Try.underlying9 rfl rfl) (run_equalIn_string w _ 9 _ _ Try.underlying9) ?_
  refine eqFields_cons rfl (part_one w Try.underlying9 rfl rfl) (part_one w Try.underlying9 rfl rfl) (run_equalIn_string w _ 9 _ _ Try.underlying9) ?_
  refine eqFields_cons rfl (part_one w Try.underlying9 rfl rfl) (part_one w Try.underlying9 rfl rfl) (run_equalIn_string w _ 9 _ _ Try.underlying9) ?_
  refine eqFields_cons rfl (part_one w Try.underlying9 rfl rfl) (part_one w Try.underlying9 rfl rfl) (run_equalIn_string w _ 9 _ _ Try.underlying9) ?_
  refine eqFields_cons rfl (part_one w Try.underlying2 rfl rfl) (part_one w Try.underlying2 rfl rfl) (run_equalIn_int w _ 2 _ _ _ _ Try.underlying2) ?_
  refine eqFields_cons rfl (part_one w Try.underlying9 rfl rfl) (part_one w Try.underlying9 rfl rfl) (run_equalIn_string w _ 9 _ _ Try.underlying9) ?_
  refine eqFields_cons rfl (part_one w Try.underlying9 rfl rfl) (part_one w Try.underlying9 rfl rfl) (run_equalIn_string w _ 9 _ _ Try.underlying9) ?_
  refine eqFields_cons rfl (part_one w Try.underlying9 rfl rfl) (part_one w Try.underlying9 rfl rfl) (run_equalIn_string w _ 9 _ _ Try.underlying9) ?_
  refine eqFields_cons rfl (part_one w Try.underlying2 rfl rfl) (part_one w Try.underlying2 rfl rfl) (run_equalIn_int w _ 2 _ _ _ _ Try.underlying2) ?_
  exact eqFields_nil w _ _ _

theorem eql23 (w : World) (d e : PD) : (Op.equalIn 10000 23 (.agg d.cells) (.agg e.cells)).run Try.prog w = .ok (sameB d e && d.rev == e.rev) w := by
  rw [run_equalIn_struct w 9999 23 _ _ (by kernel_rfl) (by kernel_rfl)]
  have ef : (Try.prog.fieldsOf 23).toList = [⟨"State", 3, 0, false, "", "", 0⟩, ⟨"Reason", 3, 1, false, "", "", 8⟩, ⟨"Seen", 4, 2, false, "", "", 16⟩, ⟨"Session", 9, 3, false, "", "", 24⟩, ⟨"Cwd", 9, 4, false, "", "", 40⟩, ⟨"Event", 9, 5, false, "", "", 56⟩, ⟨"SinceMicro", 2, 6, false, "", "", 72⟩, ⟨"PermissionCalls", 9, 7, false, "", "", 80⟩, ⟨"Asks", 9, 8, false, "", "", 96⟩, ⟨"PermissionAsks", 9, 9, false, "", "", 112⟩, ⟨"QuestionCalls", 9, 10, false, "", "", 128⟩, ⟨"QuestionAsks", 9, 11, false, "", "", 144⟩, ⟨"Transcript", 9, 12, false, "", "", 160⟩, ⟨"TranscriptFrom", 2, 13, false, "", "", 176⟩, ⟨"Agent", 9, 14, false, "", "", 184⟩, ⟨"URL", 9, 15, false, "", "", 200⟩, ⟨"Log", 9, 16, false, "", "", 216⟩, ⟨"Revision", 2, 17, false, "", "", 232⟩] := by kernel_rfl
  rw [ef]
  have h : (sameB d e && d.rev == e.rev) = (d.st == e.st && (d.re == e.re && (d.seen == e.seen && (d.s3.toList == e.s3.toList && (d.s4.toList == e.s4.toList && (d.s5.toList == e.s5.toList && (d.since == e.since && (d.s7.toList == e.s7.toList && (d.s8.toList == e.s8.toList && (d.s9.toList == e.s9.toList && (d.s10.toList == e.s10.toList && (d.s11.toList == e.s11.toList && (d.s12.toList == e.s12.toList && (d.tf == e.tf && (d.s14.toList == e.s14.toList && (d.s15.toList == e.s15.toList && (d.s16.toList == e.s16.toList && (d.rev == e.rev && true)))))))))))))))))) := by
    simp only [sameB, Bool.and_assoc, Bool.and_true]
  rw [h]
  refine eqFields_cons rfl (part_one w Try.underlying3 rfl rfl) (part_one w Try.underlying3 rfl rfl) (run_equalIn_int w _ 3 _ _ _ _ Try.underlying3) ?_
  refine eqFields_cons rfl (part_one w Try.underlying3 rfl rfl) (part_one w Try.underlying3 rfl rfl) (run_equalIn_int w _ 3 _ _ _ _ Try.underlying3) ?_
  refine eqFields_cons rfl (part_one w Try.underlying4 rfl rfl) (part_one w Try.underlying4 rfl rfl) (run_equalIn_bool' w _ 4 _ _ Try.underlying4) ?_
  refine eqFields_cons rfl (part_one w Try.underlying9 rfl rfl) (part_one w Try.underlying9 rfl rfl) (run_equalIn_string w _ 9 _ _ Try.underlying9) ?_
  refine eqFields_cons rfl (part_one w Try.underlying9 rfl rfl) (part_one w Try.underlying9 rfl rfl) (run_equalIn_string w _ 9 _ _ Try.underlying9) ?_
  refine eqFields_cons rfl (part_one w Try.underlying9 rfl rfl) (part_one w Try.underlying9 rfl rfl) (run_equalIn_string w _ 9 _ _ Try.underlying9) ?_
  refine eqFields_cons rfl (part_one w Try.underlying2 rfl rfl) (part_one w Try.underlying2 rfl rfl) (run_equalIn_int w _ 2 _ _ _ _ Try.underlying2) ?_
  refine eqFields_cons rfl (part_one w Try.underlying9 rfl rfl) (part_one w Try.underlying9 rfl rfl) (run_equalIn_string w _ 9 _ _ Try.underlying9) ?_
  refine eqFields_cons rfl (part_one w Try.underlying9 rfl rfl) (part_one w Try.underlying9 rfl rfl) (run_equalIn_string w _ 9 _ _ Try.underlying9) ?_
  refine eqFields_cons rfl (part_one w Try.underlying9 rfl rfl) (part_one w Try.underlying9 rfl rfl) (run_equalIn_string w _ 9 _ _ Try.underlying9) ?_
  refine eqFields_cons rfl (part_one w Try.underlying9 rfl rfl) (part_one w Try.underlying9 rfl rfl) (run_equalIn_string w _ 9 _ _ Try.underlying9) ?_
  refine eqFields_cons rfl (part_one w Try.underlying9 rfl rfl) (part_one w Try.underlying9 rfl rfl) (run_equalIn_string w _ 9 _ _ Try.underlying9) ?_
  refine eqFields_cons rfl (part_one w Try.underlying9 rfl rfl) (part_one w Try.underlying9 rfl rfl) (run_equalIn_string w _ 9 _ _ Try.underlying9) ?_
  refine eqFields_cons rfl (part_one w Try.underlying2 rfl rfl) (part_one w Try.underlying2 rfl rfl) (run_equalIn_int w _ 2 _ _ _ _ Try.underlying2) ?_
  refine eqFields_cons rfl (part_one w Try.underlying9 rfl rfl) (part_one w Try.underlying9 rfl rfl) (run_equalIn_string w _ 9 _ _ Try.underlying9) ?_
  refine eqFields_cons rfl (part_one w Try.underlying9 rfl rfl) (part_one w Try.underlying9 rfl rfl) (run_equalIn_string w _ 9 _ _ Try.underlying9) ?_
  refine eqFields_cons rfl (part_one w Try.underlying9 rfl rfl) (part_one w Try.underlying9 rfl rfl) (run_equalIn_string w _ 9 _ _ Try.underlying9) ?_
  refine eqFields_cons rfl (part_one w Try.underlying2 rfl rfl) (part_one w Try.underlying2 rfl rfl) (run_equalIn_int w _ 2 _ _ _ _ Try.underlying2) ?_
  exact eqFields_nil w _ _ _

theorem run_eql33 (w : World) (x y : Operand) (d e : PD) (r r' : Int) : (do eqGuard .eql 33 x y (.agg (d.pane r)) (.agg (e.pane r')); binOp .eql 33 (.agg (d.pane r)) (.agg (e.pane r'))).run Try.prog w = .ok (.bool (sameB d e && r == r')) w := by
  rw [Sem.run_bind, run_eqGuard_agg w .eql 33 x y _ _ (by kernel_rfl)]
  simp only [Result.andThen_ok]
  rw [run_eql_struct, eql33]
  rfl
theorem run_neq33 (w : World) (x y : Operand) (d e : PD) (r r' : Int) : (do eqGuard .neq 33 x y (.agg (d.pane r)) (.agg (e.pane r')); binOp .neq 33 (.agg (d.pane r)) (.agg (e.pane r'))).run Try.prog w = .ok (.bool (!(sameB d e && r == r'))) w := by
  rw [Sem.run_bind, run_eqGuard_agg w .neq 33 x y _ _ (by kernel_rfl)]
  simp only [Result.andThen_ok]
  rw [run_neq_struct, eql33]
  rfl
theorem run_eql23 (w : World) (x y : Operand) (d e : PD) : (do eqGuard .eql 23 x y (.agg d.cells) (.agg e.cells); binOp .eql 23 (.agg d.cells) (.agg e.cells)).run Try.prog w = .ok (.bool (sameB d e && d.rev == e.rev)) w := by
  rw [Sem.run_bind, run_eqGuard_agg w .eql 23 x y _ _ (by kernel_rfl)]
  simp only [Result.andThen_ok]
  rw [run_eql_struct, eql23]
  rfl
end Go.Proofs.Qxb6626884a
