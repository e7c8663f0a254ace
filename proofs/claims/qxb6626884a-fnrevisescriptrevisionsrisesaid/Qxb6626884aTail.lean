/-
  'r := Revise(p, n, zzb1TimeAtMicro(m))': one region that draws its order: two calls, and the new variable laid before, between or behind them.
-/
import Derived.Test.Qxb6626884aRev
namespace Go.Proofs.Qxb6626884a
open Go.RowKit

def zero33 : Array Value := #[.int .i64 0, .int .i64 0, .bool false, .string ⟨#[]⟩, .string ⟨#[]⟩, .string ⟨#[]⟩, .int .u64 0, .int .i64 0, .pointer none, .string ⟨#[]⟩, .string ⟨#[]⟩, .string ⟨#[]⟩, .string ⟨#[]⟩, .string ⟨#[]⟩, .string ⟨#[]⟩, .int .i64 0, .string ⟨#[]⟩, .string ⟨#[]⟩, .string ⟨#[]⟩, .int .i64 0]
theorem run_alloc33 (w : World) : (Instr.alloc 33 true (.tuple #[])).run Try.prog w = .ok (.pointer (some ⟨w.heap.size, 0, none⟩)) (w.alloc (.cells zero33 33)) := by kernel_rfl
theorem enter8 : ∀ args w, (callFunc 8 args).run Try.prog w = .ok (.enter 8 args) w := fun _ _ => by kernel_rfl
theorem enter6 : ∀ args w, (callFunc 6 args).run Try.prog w = .ok (.enter 6 args) w := fun _ _ => by kernel_rfl

theorem timeC_any (m : Int) (hm : -9223372036854775808 ≤ m ∧ m ≤ 9223372036854775807) (w : World) :
    Calls Try.prog 9 #[.int .i64 m] w fun e w' => e = .returned (.agg (timeC m)) ∧ Below w.heap.size w w' := timeAt_any m hm w

section
variable {ops : Array Oper} {Q : Exit → Act → World → Prop} {S : World → Prop}
theorem wpAnyH_two {P : Program} {md : Region.Mode} {i j fuel : Nat} {listed : Array Bool} {a : Act} {w : World} {di dj : Option Nat} {opi opj : Op} (hr : Region.ready md ops listed = [i, j])
    (hpi : (ops[i]?).map (fun o => (o.dst, o.op, o.guard)) = some (di, opi, none)) (hpj : (ops[j]?).map (fun o => (o.dst, o.op, o.guard)) = some (dj, opj, none))
    (hi : ∀ o : Oper, o.dst = di → o.op = opi → Oper.wp P o a w (fun a' w' => S w' ∧ wpAnyH P md ops Q S fuel (listed.setIfInBounds i true) a' w') Q)
    (hj : ∀ o : Oper, o.dst = dj → o.op = opj → Oper.wp P o a w (fun a' w' => S w' ∧ wpAnyH P md ops Q S fuel (listed.setIfInBounds j true) a' w') Q) : wpAnyH P md ops Q S (fuel + 1) listed a w := by
  refine wpAnyH_all hr (by simp) fun k hk => ?_
  have key : ∀ (k : Nat) (d : Option Nat) (op : Op), (ops[k]?).map (fun o => (o.dst, o.op, o.guard)) = some (d, op, none) →
      (∀ o : Oper, o.dst = d → o.op = op → Oper.wp P o a w (fun a' w' => S w' ∧ wpAnyH P md ops Q S fuel (listed.setIfInBounds k true) a' w') Q) →
      wpOp P ops Q k (fun a' w' => S w' ∧ wpAnyH P md ops Q S fuel (listed.setIfInBounds k true) a' w') a w := by
    intro k d op hp h
    cases ho : ops[k]? with
    | none => rw [ho] at hp; cases hp
    | some o =>
      rw [ho] at hp
      simp only [Option.map_some, Option.some.injEq, Prod.mk.injEq] at hp
      unfold wpOp
      simp only [ho]
      rw [if_pos (by simp [Region.wanted, hp.2.2])]
      exact .inl (h o hp.1 hp.2.1)
  simp only [List.mem_cons, List.not_mem_nil, or_false] at hk
  rcases hk with rfl | rfl
  · exact key _ _ _ hpi hi
  · exact key _ _ _ hpj hj

/-- The operations, one by one. -/
theorem op_time {o : Oper} {a : Act} {w : World} {K : Act → World → Prop} {d tm : Nat} {m : Int} (hd : o.dst = some d) (ho : o.op = .call { callee := .value (.func 9), args := #[.tmp tm], argTypes := #[2] })
    (hm : -9223372036854775808 ≤ m ∧ m ≤ 9223372036854775807) (hx : a.eval (.tmp tm) = .int .i64 m) (h : ∀ w', Below w.heap.size w w' → K (a.put (some d) (.agg (timeC m))) w') : Oper.wp Try.prog o a w K Q := by
  refine wp_enter ho enter9 (args := #[.int .i64 m]) (by simp [hx]) ((timeC_any m hm w).mono ?_)
  rintro e w' ⟨rfl, hb⟩
  exact ⟨_, rfl, by rw [hd]; exact h w' hb⟩
theorem op_revise {o : Oper} {a : Act} {w : World} {K : Act → World → Prop} {d tp tn tt : Nat} {vp vn vt vr : Value} (hd : o.dst = some d) (ho : o.op = .call { callee := .value (.func 8), args := #[.tmp tp, .tmp tn, .tmp tt], argTypes := #[33, 33, 31] })
    (hc : ∀ w, Calls Try.prog 8 #[vp, vn, vt] w fun e w' => e = .returned vr ∧ Below w.heap.size w w')
    (h1 : a.eval (.tmp tp) = vp) (h2 : a.eval (.tmp tn) = vn) (h3 : a.eval (.tmp tt) = vt) (h : ∀ w', Below w.heap.size w w' → K (a.put (some d) vr) w') : Oper.wp Try.prog o a w K Q := by
  refine wp_enter ho enter8 (args := #[vp, vn, vt]) (by simp [h1, h2, h3]) ((hc w).mono ?_)
  rintro e w' ⟨rfl, hb⟩
  exact ⟨_, rfl, by rw [hd]; exact h w' hb⟩
theorem op_alloc33 {o : Oper} {a : Act} {w : World} {K : Act → World → Prop} {d : Nat} (hd : o.dst = some d) (ho : o.op = .alloc 33)
    (h : K (a.put (some d) (.pointer (some ⟨w.heap.size, 0, none⟩))) (w.alloc (.cells zero33 33))) : Oper.wp Try.prog o a w K Q := by
  unfold Oper.wp execOp
  simp only [ho]
  rw [Sem.run_bind, run_alloc33]
  simp only [Result.andThen_ok, Sem.run_pure, Oper.upon, hd]
  exact h
theorem op_store33 {o : Oper} {a : Act} {w : World} {K : Act → World → Prop} {tx ty b : Nat} {z : Array Value} {d : PD} {r : Int} (hd : o.dst = none) (ho : o.op = .store 33 (.tmp tx) (.tmp ty)) (hb : Has w b 33 z) (hz : z.size = 20)
    (hx : a.eval (.tmp tx) = .pointer (some ⟨b, 0, none⟩)) (hy : a.eval (.tmp ty) = .agg (d.pane r)) (h : K a (w.setCells b 0 (d.pane r).toList)) : Oper.wp Try.prog o a w K Q := by
  refine wp_store_mid 33 (.tmp tx) (.tmp ty) ho b 0 (d.pane r) hx hy (by rw [paneSize, ← hz]; exact hb.there) (by kernel_rfl) (by kernel_rfl) ?_
  rw [hd]; exact h

/-- What is to be known of the region: which operation may come up when, and what the four are. -/
structure RevTail (ops : Array Oper) (L : Array Bool) (i3 i4 i5 i6 tm tp tn d39 d40 d11 : Nat) : Prop where
  r0 : Region.ready .any ops L = [i3, i5]
  r3 : Region.ready .any ops (L.setIfInBounds i3 true) = [i4, i5]
  r34 : Region.ready .any ops ((L.setIfInBounds i3 true).setIfInBounds i4 true) = [i5]
  r345 : Region.ready .any ops (((L.setIfInBounds i3 true).setIfInBounds i4 true).setIfInBounds i5 true) = [i6]
  r35 : Region.ready .any ops ((L.setIfInBounds i3 true).setIfInBounds i5 true) = [i4]
  r354 : Region.ready .any ops (((L.setIfInBounds i3 true).setIfInBounds i5 true).setIfInBounds i4 true) = [i6]
  r5 : Region.ready .any ops (L.setIfInBounds i5 true) = [i3]
  r53 : Region.ready .any ops ((L.setIfInBounds i5 true).setIfInBounds i3 true) = [i4]
  r534 : Region.ready .any ops (((L.setIfInBounds i5 true).setIfInBounds i3 true).setIfInBounds i4 true) = [i6]
  e1 : Region.ready .any ops ((((L.setIfInBounds i3 true).setIfInBounds i4 true).setIfInBounds i5 true).setIfInBounds i6 true) = []
  e2 : Region.ready .any ops ((((L.setIfInBounds i3 true).setIfInBounds i5 true).setIfInBounds i4 true).setIfInBounds i6 true) = []
  e3 : Region.ready .any ops ((((L.setIfInBounds i5 true).setIfInBounds i3 true).setIfInBounds i4 true).setIfInBounds i6 true) = []
  p3 : (ops[i3]?).map (fun o => (o.dst, o.op, o.guard)) = some (some d39, .call { callee := .value (.func 9), args := #[.tmp tm], argTypes := #[2] }, none)
  p4 : (ops[i4]?).map (fun o => (o.dst, o.op, o.guard)) = some (some d40, .call { callee := .value (.func 8), args := #[.tmp tp, .tmp tn, .tmp d39], argTypes := #[33, 33, 31] }, none)
  p5 : (ops[i5]?).map (fun o => (o.dst, o.op, o.guard)) = some (some d11, .alloc 33, none)
  p6 : (ops[i6]?).map (fun o => (o.dst, o.op, o.guard)) = some (none, .store 33 (.tmp d11) (.tmp d40), none)
  n1 : decide (d39 ≠ tp ∧ d39 ≠ tn ∧ d11 ≠ tm ∧ d11 ≠ tp ∧ d11 ≠ tn ∧ d11 ≠ d39 ∧ d11 ≠ d40 ∧ d40 ≠ d11 ∧ d39 ≠ d11) = true

theorem rev_tail {L : Array Bool} {i3 i4 i5 i6 tm tp tn d39 d40 d11 : Nat} (T : RevTail ops L i3 i4 i5 i6 tm tp tn d39 d40 d11) {W0 w : World} {a : Act} {m : Int} {vp vn : Value} {d : PD} {r : Int}
    (hm : -9223372036854775808 ≤ m ∧ m ≤ 9223372036854775807)
    (hc : ∀ w, Calls Try.prog 8 #[vp, vn, .agg (timeC m)] w fun e w' => e = .returned (.agg (d.pane r)) ∧ Below w.heap.size w w')
    (hS : Below W0.heap.size W0 w) (hsz : d39 < a.tmps.size ∧ d40 < a.tmps.size ∧ d11 < a.tmps.size)
    (ht : a.eval (.tmp tm) = .int .i64 m) (hp : a.eval (.tmp tp) = vp) (hn : a.eval (.tmp tn) = vn)
    (h : ∀ b w', W0.heap.size ≤ b → Has w' b 33 (d.pane r) → Below W0.heap.size W0 w' → Q .normal (((a.put (some d39) (.agg (timeC m))).put (some d40) (.agg (d.pane r))).put (some d11) (.pointer (some ⟨b, 0, none⟩))) w') :
    wpAnyH Try.prog .any ops Q (fun w' => Below W0.heap.size W0 w') 4 L a w := by
  obtain ⟨k1, k2, k3, k4, k5, k6, k7, k8, k9⟩ := of_decide_eq_true T.n1
  obtain ⟨z1, z2, z3⟩ := hsz
  have tr : ∀ {u u' : World}, Below W0.heap.size W0 u → Below u.heap.size u u' → Below W0.heap.size W0 u' := fun hu hu' => hu.trans (hu'.mono hu.size)
  have al : ∀ (u : World), Below u.heap.size u (u.alloc (.cells zero33 33)) := fun u => (Below.refl _ _).alloc (Nat.le_refl _) _
  have fin : ∀ (b : Nat) (u : World) (z : Array Value), W0.heap.size ≤ b → Has u b 33 z → z.size = 20 → Below W0.heap.size W0 u → W0.heap.size ≤ b ∧ Has (u.setCells b 0 (d.pane r).toList) b 33 (d.pane r) ∧ Below W0.heap.size W0 (u.setCells b 0 (d.pane r).toList) :=
    fun b u z hb hz hs hu => ⟨hb, hz.set (d.pane r) hs, below_setCells hb _ _ hu⟩
  refine wpAnyH_two T.r0 T.p3 T.p5 (fun o hd ho => op_time hd ho hm ht fun w1 hb1 => ⟨tr hS hb1, ?_⟩) (fun o hd ho => op_alloc33 hd ho ⟨tr hS (al w), ?_⟩)
  · have S1 := tr hS hb1
    refine wpAnyH_two T.r3 T.p4 T.p5 (fun o hd ho => op_revise hd ho hc (by rw [eval_put_other k1]; exact hp) (by rw [eval_put_other k2]; exact hn) (eval_put_same z1) fun w2 hb2 => ⟨tr S1 hb2, ?_⟩) (fun o hd ho => op_alloc33 hd ho ⟨tr S1 (al w1), ?_⟩)
    · have S2 := tr S1 hb2
      refine wpAnyH_one T.r34 T.p5 fun o hd ho => op_alloc33 hd ho ⟨tr S2 (al w2), ?_⟩
      have F := fin w2.heap.size _ zero33 S2.size (has_new w2 33 zero33) rfl (tr S2 (al w2))
      refine wpAnyH_one T.r345 T.p6 fun o hd ho => op_store33 (d := d) (r := r) hd ho (has_new w2 33 zero33) rfl (eval_put_same (by simp [size_put, z3])) (by rw [eval_put_other k7]; exact eval_put_same (by simp [size_put, z2])) ⟨F.2.2, ?_⟩
      exact wpAnyH_done T.e1 (h _ _ F.1 F.2.1 F.2.2) _
    · have S2 := tr S1 (al w1)
      refine wpAnyH_one T.r35 T.p4 fun o hd ho => op_revise hd ho hc (by rw [eval_put_other k4, eval_put_other k1]; exact hp) (by rw [eval_put_other k5, eval_put_other k2]; exact hn) (by rw [eval_put_other k6]; exact eval_put_same z1) fun w2 hb2 => ⟨tr S2 hb2, ?_⟩
      have S3 := tr S2 hb2
      have hz := (has_new w1 33 zero33).below hb2
      have F := fin w1.heap.size _ zero33 S1.size hz rfl S3
      refine wpAnyH_one T.r354 T.p6 fun o hd ho => op_store33 (d := d) (r := r) hd ho hz rfl (by rw [eval_put_other k8]; exact eval_put_same (by simp [size_put, z3])) (eval_put_same (by simp [size_put, z2])) ⟨F.2.2, ?_⟩
      refine wpAnyH_done T.e2 ?_ _
      have hq := h _ _ F.1 F.2.1 F.2.2
      rw [Act.put_comm _ _ _ (by simpa using k7)] at hq
      exact hq
  · have S1 := tr hS (al w)
    refine wpAnyH_one T.r5 T.p3 fun o hd ho => op_time hd ho hm (by rw [eval_put_other k3]; exact ht) fun w1 hb1 => ⟨tr S1 hb1, ?_⟩
    have S2 := tr S1 hb1
    refine wpAnyH_one T.r53 T.p4 fun o hd ho => op_revise hd ho hc (by rw [eval_put_other k1, eval_put_other k4]; exact hp) (by rw [eval_put_other k2, eval_put_other k5]; exact hn) (eval_put_same (by simp [size_put, z1])) fun w2 hb2 => ⟨tr S2 hb2, ?_⟩
    have S3 := tr S2 hb2
    have hz := ((has_new w 33 zero33).below hb1).below hb2
    have F := fin w.heap.size _ zero33 hS.size hz rfl S3
    refine wpAnyH_one T.r534 T.p6 fun o hd ho => op_store33 (d := d) (r := r) hd ho hz rfl (by rw [eval_put_other k8, eval_put_other k9]; exact eval_put_same z3) (eval_put_same (by simp [size_put, z2])) ⟨F.2.2, ?_⟩
    refine wpAnyH_done T.e3 ?_ _
    have hq := h _ _ F.1 F.2.1 F.2.2
    rw [Act.put_comm _ _ _ (by simpa using k7), Act.put_comm a _ _ (by simpa using k6)] at hq
    exact hq
end
end Go.Proofs.Qxb6626884a
