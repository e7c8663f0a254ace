/-
  BLOCKS THAT ARE KNOWN WHOLE, their cells under a name: loads and stores of a whole struct without unrolling.
-/
import Derived.Test.Qxb6626884aRegion
import Derived.WalkKit
import Derived.WalkSpells
import Derived.WalkLawsBesides
import Derived.Deep.MidRow
namespace Go.Proofs.Qxb6626884a
open Go.RowKit

/-- Block b holds the cells c, of type t, none of them frozen. -/
def Has (w : World) (b : Nat) (t : TypeId) (c : Array Value) : Prop := w.heap[b]? = some (.cells c t (0, 0))

theorem Has.lt {w : World} {b : Nat} {t : TypeId} {c : Array Value} (h : Has w b t c) : b < w.heap.size := by
  unfold Has at h
  rcases Nat.lt_or_ge b w.heap.size with h' | h'
  · exact h'
  · rw [Array.getElem?_eq_none h'] at h; cases h
theorem has_new (w : World) (t : TypeId) (c : Array Value) : Has (w.alloc (.cells c t)) w.heap.size t c := by
  show (w.heap.push _)[w.heap.size]? = _
  simp
theorem has_at {w : World} {t : TypeId} {c : Array Value} {b : Nat} (hb : b = w.heap.size) : Has (w.alloc (.cells c t)) b t c := hb ▸ has_new w t c
theorem Has.alloc {w : World} {b : Nat} {t : TypeId} {c : Array Value} (h : Has w b t c) (o : Obj) : Has (w.alloc o) b t c := by
  have := h.lt
  show (w.heap.push o)[b]? = _
  rw [Array.getElem?_push, if_neg (by omega)]
  exact h
theorem Has.drew {w : World} {b : Nat} {t : TypeId} {c : Array Value} (h : Has w b t c) : Has w.drew b t c := h
theorem Has.below {w w1 : World} {b : Nat} {t : TypeId} {c : Array Value} (h : Has w b t c) (hb : Below w.heap.size w w1) : Has w1 b t c := (hb.block b h.lt).trans h
theorem Has.cell {w : World} {b : Nat} {t : TypeId} {c : Array Value} (h : Has w b t c) (i : Nat) : w.cell? ⟨b, i, none⟩ = c[i]? := by
  unfold Has at h; simp [World.cell?, h]
theorem Has.free {w : World} {b : Nat} {t : TypeId} {c : Array Value} (h : Has w b t c) (i : Nat) : w.frozen? ⟨b, i, none⟩ = false := by
  unfold Has at h; simp [World.frozen?, h]
theorem Has.range {w : World} {b : Nat} {t : TypeId} {c : Array Value} (h : Has w b t c) : w.rangeAt b 0 c.toList := fun j v hv => by
  rw [Nat.zero_add, h.cell]; simpa using hv
theorem Has.there {w : World} {b : Nat} {t : TypeId} {c : Array Value} (h : Has w b t c) : w.there b 0 c.size := fun j hj => by
  rw [Nat.zero_add, h.cell, h.free]; simp [hj]
theorem Has.setCell {w : World} {b : Nat} {t : TypeId} {c : Array Value} (h : Has w b t c) (i : Nat) (v : Value) : Has (w.setCell ⟨b, i, none⟩ v) b t (c.setIfInBounds i v) := by
  unfold Has at *
  simp [World.setCell, Array.getElem?_modify, h]
theorem Has.other {w : World} {b : Nat} {t : TypeId} {c : Array Value} (h : Has w b t c) {b' : Nat} (hb : b ≠ b') (i : Nat) (v : Value) : Has (w.setCell ⟨b', i, none⟩ v) b t c := by
  unfold Has at *
  simp [World.setCell, Array.getElem?_modify, h]
  intro e; exact absurd e.symm hb
theorem Has.others {b : Nat} {t : TypeId} {c : Array Value} {b' : Nat} (hb : b ≠ b') : ∀ (vs : List Value) (o : Nat) {w : World}, Has w b t c → Has (w.setCells b' o vs) b t c
  | [], _, _, h => h
  | v :: r, o, _, h => by rw [World.setCells]; exact Has.others hb r (o + 1) (h.other hb o v)
theorem below_setCells {B b : Nat} {a : World} (hb : B ≤ b) : ∀ (vs : List Value) (o : Nat) {w : World}, Below B a w → Below B a (w.setCells b o vs)
  | [], _, _, h => h
  | v :: r, o, _, h => by rw [World.setCells]; exact below_setCells hb r (o + 1) (h.setCell hb v)

section
variable {P : Program}

theorem run_loadVar_has {w : World} {b : Nat} {t ty : TypeId} {c : Array Value} {d : TypeDesc} (h : Has w b t c) (hu : P.underlying ty = some d) (hd : d.isRow = true) (hi : (P.info? ty).map (·.size) = some c.size) :
    (loadVar ty ⟨b, 0, none⟩).run P w = .ok (.agg c) w := by
  have := run_loadVar_mid (P := P) w b 0 ty c.toList d h.range hu hd (by simpa using hi)
  simpa using this

/-- A whole struct is loaded out of a block. -/
theorem wpList_load_has {ops : Array Oper} {rest : List Oper} {op : Oper} {a : Act} {w : World} {Q : Exit → Act → World → Prop} (hgd : op.guard = none) (ty : TypeId) (x : Operand) (ho : op.op = .load ty x)
    (b : Nat) (hx : a.eval x = .pointer (some ⟨b, 0, none⟩)) (c : Array Value) (t : TypeId) (d : TypeDesc) (hc : Has w b t c)
    (hu : P.underlying ty = some d) (hd : d.isRow = true) (hi : (P.info? ty).map (·.size) = some c.size)
    (h : wpList P ops Q rest (a.put op.dst (.agg c)) w) : wpList P ops Q (op :: rest) a w := by
  refine wpList_load_mid hgd ty x ho b 0 hx c.toList d hc.range hu hd (by simpa using hi) ?_
  simpa using h

def setsAt (z : Array Value) (o : Nat) : List Value → Array Value
  | [] => z
  | v :: r => setsAt (z.setIfInBounds o v) (o + 1) r
theorem setsAt_size : ∀ (vs : List Value) (o : Nat) (z : Array Value), (setsAt z o vs).size = z.size
  | [], _, _ => rfl
  | v :: r, o, z => by rw [setsAt, setsAt_size r]; simp
theorem setsAt_get : ∀ (vs : List Value) (o : Nat) (z : Array Value) (i : Nat), i < z.size → (setsAt z o vs)[i]? = if o ≤ i ∧ i < o + vs.length then vs[i - o]? else z[i]?
  | [], o, z, i, _ => by rw [setsAt, if_neg (by simp)]
  | v :: r, o, z, i, hi => by
    rw [setsAt, setsAt_get r (o + 1) _ i (by simpa using hi)]
    by_cases h : i = o
    · subst h
      rw [if_neg (by omega), if_pos (by simp)]
      simp [hi]
    · by_cases h2 : o + 1 ≤ i ∧ i < o + 1 + r.length
      · rw [if_pos h2, if_pos ⟨by omega, by simp; omega⟩]
        obtain ⟨k, rfl⟩ : ∃ k, i = o + 1 + k := ⟨i - (o + 1), by omega⟩
        rw [show o + 1 + k - (o + 1) = k from by omega, show o + 1 + k - o = k + 1 from by omega]
        simp
      · rw [if_neg h2, if_neg (by simp; omega)]
        simp [show ¬ o = i from fun e => h e.symm]
theorem setCells_alloc (t : TypeId) : ∀ (vs : List Value) (w : World) (o : Nat) (z : Array Value), (w.alloc (.cells z t)).setCells w.heap.size o vs = w.alloc (.cells (setsAt z o vs) t)
  | [], _, _, _ => rfl
  | v :: r, w, o, z => by
    rw [World.setCells, World.setCell_alloc_at _ _ _ _ _ rfl, setCells_alloc t r]
    rfl
theorem setsAt_all (z c : Array Value) (hz : z.size = c.size) : setsAt z 0 c.toList = c := by
  apply Array.ext_getElem?
  intro i
  rcases Nat.lt_or_ge i z.size with h | h
  · rw [setsAt_get _ _ _ _ h, if_pos ⟨by omega, by simp; omega⟩]; simp
  · rw [Array.getElem?_eq_none (by rw [setsAt_size]; exact h), Array.getElem?_eq_none (by omega)]
/-- A whole struct is stored into the block that was made last. -/
theorem setCells_new (w : World) (t : TypeId) (z c : Array Value) (hz : z.size = c.size) : (w.alloc (.cells z t)).setCells w.heap.size 0 c.toList = w.alloc (.cells c t) := by
  rw [setCells_alloc, setsAt_all z c hz]
theorem Has.sets {b : Nat} {t : TypeId} : ∀ (vs : List Value) (o : Nat) {w : World} {z : Array Value}, Has w b t z → Has (w.setCells b o vs) b t (setsAt z o vs)
  | [], _, _, _, h => h
  | v :: r, o, _, _, h => by rw [World.setCells]; exact Has.sets r (o + 1) (h.setCell o v)
theorem Has.set {w : World} {b : Nat} {t : TypeId} {z : Array Value} (h : Has w b t z) (c : Array Value) (hz : z.size = c.size) : Has (w.setCells b 0 c.toList) b t c := by
  have := h.sets c.toList 0
  rwa [setsAt_all z c hz] at this

theorem wpList_store_new {ops : Array Oper} {rest : List Oper} {op : Oper} {a : Act} {w : World} {Q : Exit → Act → World → Prop} (hgd : op.guard = none) (ty : TypeId) (x y : Operand) (ho : op.op = .store ty x y)
    (t : TypeId) (z c : Array Value) (b : Nat) (hb : b = w.heap.size) (hx : a.eval x = .pointer (some ⟨b, 0, none⟩)) (hy : a.eval y = .agg c) (hz : z.size = c.size)
    (hi : (P.info? ty).map (·.size) = some c.size) (h1 : c.all (·.oneCell') = true)
    (h : wpList P ops Q rest (a.put op.dst undef) (w.alloc (.cells c t))) : wpList P ops Q (op :: rest) a (w.alloc (.cells z t)) := by
  subst hb
  refine wpList_store_mid hgd ty x y ho w.heap.size 0 c hx hy (by rw [← hz]; exact (has_new w t z).there) hi h1 ?_
  rw [setCells_new w t z c hz]
  exact h
/-- A whole struct is stored into a block. -/
theorem wpList_store_has {ops : Array Oper} {rest : List Oper} {op : Oper} {a : Act} {w : World} {Q : Exit → Act → World → Prop} (hgd : op.guard = none) (ty : TypeId) (x y : Operand) (ho : op.op = .store ty x y)
    (b : Nat) (t : TypeId) (z c : Array Value) (hx : a.eval x = .pointer (some ⟨b, 0, none⟩)) (hy : a.eval y = .agg c) (hb : Has w b t z) (hz : z.size = c.size)
    (hi : (P.info? ty).map (·.size) = some c.size) (h1 : c.all (·.oneCell') = true)
    (h : wpList P ops Q rest (a.put op.dst undef) (w.setCells b 0 c.toList)) : wpList P ops Q (op :: rest) a w :=
  wpList_store_mid hgd ty x y ho b 0 c hx hy (by rw [← hz]; exact hb.there) hi h1 h

/-- An operation that yields a value and leaves the world. -/
theorem wpList_yields {ops : Array Oper} {rest : List Oper} {op : Oper} {a : Act} {w : World} {Q : Exit → Act → World → Prop} (hgd : op.guard = none) (v : Value) (hr : (execOp a.eval op).run P w = .ok (.value v) w)
    (h : wpList P ops Q rest (a.put op.dst v) w) : wpList P ops Q (op :: rest) a w :=
  wpList_plain hgd fun _ hK => by unfold Oper.wp; rw [hr]; exact hK _ _ h
end
end Go.Proofs.Qxb6626884a
