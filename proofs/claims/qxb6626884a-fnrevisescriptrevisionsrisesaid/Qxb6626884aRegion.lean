/-
  A LAW FOR A LONG REGION THAT DRAWS ITS ORDER: many fields of one boxed struct are loaded beside one call ('return T{A: d.A, B: f(d.B), ..}'). The loads are taken first, ALL AT ONCE, by one closed check.
-/
import Derived.Deep.RegionHeld3
namespace Go.Proofs.Qxb6626884a
open Go

section
variable {P : Program} {ops : Array Oper} {Q : Exit → Act → World → Prop} {md : Region.Mode} {S : World → Prop}

/-- The state behind the taking of a list of operations with their values. -/
def putsOf (ops : Array Oper) : List (Nat × Value) → Act → Act
  | [], a => a
  | (i, v) :: r, a => putsOf ops r (a.put ((ops[i]?).bind (·.dst)) v)

def listOf (l : Array Bool) : List (Nat × Value) → Array Bool
  | [] => l
  | (i, _) :: r => listOf (l.setIfInBounds i true) r

/-- Each of the operations may be taken first where it stands in the list. -/
def chkTake (md : Region.Mode) (ops : Array Oper) : List (Nat × Value) → Array Bool → Bool
  | [], _ => true
  | (i, _) :: r, l => Region.free md ops l i && (Region.ready md ops l).contains i && chkTake md ops r (l.setIfInBounds i true)

/-- Each of the operations yields its value. -/
def YSeq (P : Program) (ops : Array Oper) (S : World → Prop) : List (Nat × Value) → Act → Prop
  | [], _ => True
  | (i, v) :: r, a => (∃ o, ops[i]? = some o ∧ YieldsIf P ops S o v a) ∧ YSeq P ops S r (a.put ((ops[i]?).bind (·.dst)) v)

theorem panic_put (hQ : ∀ c a w t v, Q (.panic c) (Act.put a (some t) v) w → Q (.panic c) a w) {d : Option Tmp} {v : Value} : ∀ c a w, Q (.panic c) (Act.put a d v) w → Q (.panic c) a w := by
  intro c a w h
  cases d with
  | none => exact h
  | some t => exact hQ c a w t v h

theorem wpAnyH_takes (hs : Region.noSelect ops = true) (hQ : ∀ c a w t v, Q (.panic c) (Act.put a (some t) v) w → Q (.panic c) a w) :
    ∀ (st : List (Nat × Value)) (listed : Array Bool) (a : Act) (w : World) (fuel : Nat), chkTake md ops st listed = true → YSeq P ops S st a → S w →
      wpAnyH P md ops Q S fuel (listOf listed st) (putsOf ops st a) w → wpAnyH P md ops Q S (fuel + st.length) listed a w
  | [], _, _, _, _, _, _, _, h => h
  | (i, v) :: r, l, a, w, fuel, hc, ⟨⟨o, ho, hy⟩, hr⟩, hS, h => by
    simp only [chkTake, Bool.and_eq_true] at hc
    obtain ⟨⟨hf, hrd⟩, hc⟩ := hc
    have e : (ops[i]?).bind (·.dst) = o.dst := by rw [ho]; rfl
    simp only [e] at hr
    simp only [listOf, putsOf, e] at h
    exact wpAnyH_take ho hs hf hrd (panic_put hQ) hy hS (wpAnyH_takes hs hQ r _ _ w fuel hc hr hS h)

/-- The same, the state and the list behind it written out. -/
theorem wpAnyH_takesTo {st : List (Nat × Value)} {listed listed' : Array Bool} {a a' : Act} {w : World} {fuel : Nat} (hs : Region.noSelect ops = true) (hQ : ∀ c a w t v, Q (.panic c) (Act.put a (some t) v) w → Q (.panic c) a w)
    (hc : chkTake md ops st listed = true) (hy : YSeq P ops S st a) (hS : S w) (hl : listOf listed st = listed') (ha : putsOf ops st a = a')
    (h : wpAnyH P md ops Q S fuel listed' a' w) : wpAnyH P md ops Q S (fuel + st.length) listed a w :=
  wpAnyH_takes hs hQ st listed a w fuel hc hy hS (by rw [hl, ha]; exact h)
end

/-! ### Fields of a boxed struct, each loaded by 'fieldAddr' and 'load' -/
section
variable {P : Program} {ops : Array Oper} {S : World → Prop}

theorem eval_put_other {a : Act} {x d : Nat} {v : Value} (h : d ≠ x) : (a.put (some d) v).eval (.tmp x) = a.eval (.tmp x) := by
  simp [Act.put, Act.eval, h]
theorem eval_put_same {a : Act} {d : Nat} {v : Value} (h : d < a.tmps.size) : (a.put (some d) v).eval (.tmp d) = v := by
  simp [Act.put, Act.eval, h]
theorem size_put (a : Act) (d : Option Nat) (v : Value) : (a.put d v).tmps.size = a.tmps.size := by
  cases d <;> simp [Act.put]

def isFieldOf (t b0 k : Nat) : Oper → Option Nat
  | { dst := some y, op := .fieldAddr t' (.tmp x) f, guard := none, .. } => if t' = t ∧ x = b0 ∧ f = k then some y else none
  | _ => none
def isLoadOf (one : List Nat) (y : Nat) : Oper → Option Nat
  | { dst := some z, op := .load e (.tmp y'), guard := none, .. } => if y' = y ∧ e ∈ one then some z else none
  | _ => none
/-- Operations i and j load field k of the struct that lies behind temporary b0. -/
def pairOk (ops : Array Oper) (t b0 n : Nat) (one : List Nat) (m : Nat) (q : Nat × Nat × Nat) : Bool :=
  match ops[q.1]?, ops[q.2.1]? with
  | some oi, some oj => match isFieldOf t b0 q.2.2 oi with
    | some y => match isLoadOf one y oj with
      | some z => decide (y ≠ b0) && decide (z ≠ b0) && decide (y < n) && decide (q.2.2 < m)
      | none => false
    | none => false
  | _, _ => false

def stOf (B : Nat) (cs : Array Value) : List (Nat × Nat × Nat) → List (Nat × Value)
  | [] => []
  | (i, j, k) :: r => (i, .pointer (some ⟨B, k, none⟩)) :: (j, cs.getD k undef) :: stOf B cs r

theorem isFieldOf_spec {t b0 k y : Nat} {o : Oper} (h : isFieldOf t b0 k o = some y) : o.dst = some y ∧ o.op = .fieldAddr t (.tmp b0) k ∧ o.guard = none := by
  unfold isFieldOf at h
  split at h
  · split at h
    · rename_i hc; obtain ⟨rfl, rfl, rfl⟩ := hc; simp at h; subst h; exact ⟨rfl, rfl, rfl⟩
    · cases h
  · cases h
theorem isLoadOf_spec {one : List Nat} {y z : Nat} {o : Oper} (h : isLoadOf one y o = some z) : ∃ e ∈ one, o.dst = some z ∧ o.op = .load e (.tmp y) ∧ o.guard = none := by
  unfold isLoadOf at h
  split at h
  · split at h
    · rename_i hc; obtain ⟨rfl, he⟩ := hc; simp at h; subst h; exact ⟨_, he, rfl, rfl, rfl⟩
    · cases h
  · cases h

theorem YSeq_pairs {t b0 n B : Nat} {one : List Nat} {cs : Array Value}
    (hfa : ∀ k, k < cs.size → ∀ w, (Instr.fieldAt t (.pointer (some ⟨B, 0, none⟩)) k).run P w = .ok (.pointer (some ⟨B, k, none⟩)) w)
    (hld : ∀ e ∈ one, ∀ (x : Addr) (w : World) (v : Value), w.cell? x = some v → (Instr.loadAt e (.pointer (some x))).run P w = .ok v w)
    (hS : ∀ w, S w → ∀ o, w.cell? ⟨B, o, none⟩ = cs[o]?) :
    ∀ (ps : List (Nat × Nat × Nat)) (a : Act), ps.all (pairOk ops t b0 n one cs.size) = true → a.tmps.size = n → a.eval (.tmp b0) = .pointer (some ⟨B, 0, none⟩) → YSeq P ops S (stOf B cs ps) a
  | [], _, _, _, _ => trivial
  | (i, j, k) :: r, a, hc, hn, hb => by
    simp only [List.all_cons, Bool.and_eq_true] at hc
    obtain ⟨hp, hr⟩ := hc
    unfold pairOk at hp
    split at hp
    case h_2 => cases hp
    rename_i oi oj hoi hoj
    split at hp
    case h_2 => cases hp
    rename_i y hy
    split at hp
    case h_2 => cases hp
    rename_i z hz
    simp only [Bool.and_eq_true, decide_eq_true_eq] at hp
    obtain ⟨⟨⟨hyb, hzb⟩, hyn⟩, hk⟩ := hp
    obtain ⟨d1, o1, g1⟩ := isFieldOf_spec hy
    obtain ⟨e, he, d2, o2, g2⟩ := isLoadOf_spec hz
    have e1 : (ops[i]?).bind (·.dst) = some y := by rw [hoi]; exact d1
    have e2 : (ops[j]?).bind (·.dst) = some z := by rw [hoj]; exact d2
    simp only [stOf, YSeq, e1, e2]
    refine ⟨⟨oi, hoi, .inl ⟨by simp [Region.wanted, g1], fun w _ => ?_⟩⟩, ⟨oj, hoj, .inl ⟨by simp [Region.wanted, g2], fun w hw => ?_⟩⟩, ?_⟩
    · simp only [execOp, o1, hb]
      simp [hfa k hk w, Result.andThen]
    · have hv : w.cell? ⟨B, k, none⟩ = some (cs.getD k undef) := by rw [hS w hw k]; simp [hk]
      simp only [execOp, o2]
      rw [eval_put_same (by omega)]
      simp [hld e he _ _ _ hv, Result.andThen]
    · refine YSeq_pairs hfa hld hS r _ hr (by rw [size_put, size_put, hn]) ?_
      rw [eval_put_other hzb, eval_put_other hyb, hb]
/-- A call of a named Go function, by its contract. -/
theorem wp_enter {Q : Exit → Act → World → Prop} {o : Oper} {a : Act} {w : World} {K : Act → World → Prop} {f : FuncId} {xs : Array Operand} {ts : Array TypeId} (ho : o.op = .call { callee := .value (.func f), args := xs, argTypes := ts })
    {args : Array Value} (hen : ∀ args w, (callFunc f args).run P w = .ok (.enter f args) w) (hx : xs.map a.eval = args) (h : Calls P f args w fun e w' => ∃ v, e = .returned v ∧ K (a.put o.dst v) w') : Oper.wp P o a w K Q := by
  subst hx
  obtain ⟨dst, op, ty, pos, after, guard⟩ := o
  simp only at ho
  subst ho
  unfold Oper.wp
  have e : execOp a.eval { dst, op := .call { callee := .value (.func f), args := xs, argTypes := ts }, type := ty, pos, after, guard } = callFunc f (#[] ++ xs.map a.eval ++ #[]) := rfl
  rw [e, hen]
  simp only [Oper.upon, Array.empty_append, Array.append_empty]
  refine h.mono fun e w' ⟨v, he, hk⟩ => ?_
  subst he
  exact hk

/-- One operation that alone may come up: it is carried out, S is shown anew. -/
theorem wpAnyH_one {Q : Exit → Act → World → Prop} {md : Region.Mode} {i fuel : Nat} {listed : Array Bool} {a : Act} {w : World} {d : Option Nat} {op : Op} (hr : Region.ready md ops listed = [i]) (hp : (ops[i]?).map (fun o => (o.dst, o.op, o.guard)) = some (d, op, none))
    (h : ∀ o : Oper, o.dst = d → o.op = op → Oper.wp P o a w (fun a' w' => S w' ∧ wpAnyH P md ops Q S fuel (listed.setIfInBounds i true) a' w') Q) : wpAnyH P md ops Q S (fuel + 1) listed a w := by
  refine wpAnyH_all hr (by simp) fun j hj => ?_
  simp only [List.mem_singleton] at hj
  subst hj
  cases ho : ops[j]? with
  | none => rw [ho] at hp; cases hp
  | some o =>
    rw [ho] at hp
    simp only [Option.map_some, Option.some.injEq, Prod.mk.injEq] at hp
    unfold wpOp
    simp only [ho]
    rw [if_pos (by simp [Region.wanted, hp.2.2])]
    exact .inl (h o hp.1 hp.2.1)

/-- One operation is taken first. -/
theorem wpAnyH_take1 {Q : Exit → Act → World → Prop} {md : Region.Mode} {i fuel : Nat} {listed : Array Bool} {a : Act} {w : World} {d : Option Nat} {op : Op} {v : Value} (hs : Region.noSelect ops = true) (hQ : ∀ c a w t v, Q (.panic c) (Act.put a (some t) v) w → Q (.panic c) a w)
    (hf : Region.free md ops listed i = true) (hr : (Region.ready md ops listed).contains i = true) (hp : (ops[i]?).map (fun o => (o.dst, o.op, o.guard)) = some (d, op, none))
    (hy : ∀ o : Oper, o.op = op → ∀ w, S w → (execOp a.eval o).run P w = .ok (.value v) w) (hS : S w)
    (h : wpAnyH P md ops Q S fuel (listed.setIfInBounds i true) (a.put d v) w) : wpAnyH P md ops Q S (fuel + 1) listed a w := by
  cases ho : ops[i]? with
  | none => rw [ho] at hp; cases hp
  | some o =>
    rw [ho] at hp
    simp only [Option.map_some, Option.some.injEq, Prod.mk.injEq] at hp
    exact wpAnyH_take ho hs hf hr (panic_put hQ) (.inl ⟨by simp [Region.wanted, hp.2.2], hy o hp.2.1⟩) hS (by rw [hp.1]; exact h)
end
end Go.Proofs.Qxb6626884a
