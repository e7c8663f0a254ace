/-
  LAWS FOR A REGION THAT DRAWS ITS ORDER, taken step by step (generic; after the text of the same make of another seat).
-/
import Derived.Deep.RegionHeld3
namespace Go.Proofs.Qxb6626927a
open Go

section
variable {P : Program} {ops : Array Oper} {Q : Exit → Act → World → Prop} {md : Region.Mode} {S : World → Prop}
theorem panic_put (hQ : ∀ c a w t v, Q (.panic c) (Act.put a (some t) v) w → Q (.panic c) a w) {d : Option Tmp} {v : Value} : ∀ c a w, Q (.panic c) (Act.put a d v) w → Q (.panic c) a w := by
  intro c a w h
  cases d with
  | none => exact h
  | some t => exact hQ c a w t v h

end

section
variable {P : Program} {ops : Array Oper} {S : World → Prop}
/-- One operation that alone may come up: it is carried out, S is shown anew. -/
theorem wpAnyH_one {Q : Exit → Act → World → Prop} {md : Region.Mode} {i fuel : Nat} {listed : Array Bool} {a : Act} {w : World} {d : Option Nat} {op : Op} (hr : Region.ready md ops listed = [i]) (hp : (ops[i]?).map (fun o => (o.dst, o.op, o.guard)) = some (d, op, none))
    (h : ∀ o : Oper, o.dst = d → o.op = op → Oper.wp P o a w (fun a' w' => S w' ∧ wpAnyH P md ops Q S fuel (listed.setIfInBounds i true) a' w') Q) : wpAnyH P md ops Q S (fuel + 1) listed a w := by
  refine wpAnyH_all hr (by simp) fun j hj => ?_
  simp only [List.mem_singleton] at hj
  subst hj
  cases ho : ops[j]? with
  | none => rw [ho] at hp; cases hp
  | some o =>
    rw [ho] at hp
    simp only [Option.map_some, Option.some.injEq, Prod.mk.injEq] at hp
    unfold wpOp
    simp only [ho]
    rw [if_pos (by simp [Region.wanted, hp.2.2])]
    exact .inl (h o hp.1 hp.2.1)

/-- One operation is taken first. -/
theorem wpAnyH_take1 {Q : Exit → Act → World → Prop} {md : Region.Mode} {i fuel : Nat} {listed : Array Bool} {a : Act} {w : World} {d : Option Nat} {op : Op} {v : Value} (hs : Region.noSelect ops = true) (hQ : ∀ c a w t v, Q (.panic c) (Act.put a (some t) v) w → Q (.panic c) a w)
    (hf : Region.free md ops listed i = true) (hr : (Region.ready md ops listed).contains i = true) (hp : (ops[i]?).map (fun o => (o.dst, o.op, o.guard)) = some (d, op, none))
    (hy : ∀ o : Oper, o.op = op → ∀ w, S w → (execOp a.eval o).run P w = .ok (.value v) w) (hS : S w)
    (h : wpAnyH P md ops Q S fuel (listed.setIfInBounds i true) (a.put d v) w) : wpAnyH P md ops Q S (fuel + 1) listed a w := by
  cases ho : ops[i]? with
  | none => rw [ho] at hp; cases hp
  | some o =>
    rw [ho] at hp
    simp only [Option.map_some, Option.some.injEq, Prod.mk.injEq] at hp
    exact wpAnyH_take ho hs hf hr (panic_put hQ) (.inl ⟨by simp [Region.wanted, hp.2.2], hy o hp.2.1⟩) hS (by rw [hp.1]; exact h)
end
end Go.Proofs.Qxb6626927a
