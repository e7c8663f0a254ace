/-
  A []byte THAT THE CALL MAKES AND FILLS, its bytes told as a list: make, append, string(b).
-/
import Derived.Test.Qxb6626927aRows
import Derived.Test.Qxb6626927aPlain
import Derived.WalkKit
import Derived.WalkSpells
import Derived.WalkLawsBesides
import Derived.Deep.Light
import Derived.Laws.IdiomStrings
namespace Go.Proofs.Qxb6626927a
open Go.RowKit

theorem info5 : (Try.prog.info? 5).map (fun i => (i.zero, i.size, i.bytes)) = some (some (.int .u8 0), 1, 1) := by kernel_rfl

/-- Bytes as cells. -/
def bcells (l : List UInt8) : List Value := l.map fun b => Value.int .u8 b.toNat
theorem bcells_length (l : List UInt8) : (bcells l).length = l.length := by simp [bcells]
theorem bcells_append (l m : List UInt8) : bcells (l ++ m) = bcells l ++ bcells m := by simp [bcells]
theorem bcells_one (l : List UInt8) : ∀ u ∈ bcells l, u.oneCell' = true := by
  intro u hu; simp [bcells] at hu; obtain ⟨b, _, rfl⟩ := hu; rfl

/-- The slice at the head of block g, of capacity cap, holds the bytes xs; g is one of the call's own blocks (from base on). -/
structure Buf (w : World) (base g cap : Nat) (xs : List UInt8) : Prop where
  own : w.ownsRow base 5 1 (.slice (some ⟨g, 0, none⟩) xs.length cap) xs.length (bcells xs)
  ge : base ≤ g
  sz : base ≤ w.heap.size

section
variable {ops : Array Oper} {rest : List Oper} {a : Act} {w : World} {Q : Exit → Act → World → Prop} {dst : Option Tmp} {ty : TypeId} {pos : String} {after : Array Edge}

/-- 'append(b, ..)' within the capacity: what is appended lies in the block made last. -/
theorem wpList_app {base g cap : Nat} {xs : List UInt8} (s x : Tmp) (news : List UInt8) (bx mc : Nat) (c : Array Value) (hB : Buf w base g cap xs) (hs : a.eval (.tmp s) = .slice (some ⟨g, 0, none⟩) xs.length cap)
    (hx : a.eval (.tmp x) = .slice (some ⟨bx, 0, none⟩) news.length mc) (hbx : bx = w.heap.size) (hc : c = (bcells news).toArray) (hcap : xs.length + news.length ≤ cap)
    (h : ∀ w', Buf w' base g cap (xs ++ news) → Below base w w' → wpList Try.prog ops Q rest (a.put dst (.slice (some ⟨g, 0, none⟩) (xs ++ news).length cap)) w') :
    wpList Try.prog ops Q ({ dst, op := .call { callee := .builtin .append, args := #[.tmp s, .tmp x], argTypes := #[28, 28] }, type := ty, pos, after, guard := none } :: rest) a (w.alloc (.cells c 5)) := by
  subst hbx hc
  obtain ⟨i0, hi, _, hz1, _⟩ := info_parts info5
  refine wpList_append_fits _ rfl (.tmp s) (.tmp x) 28 rfl base 5 i0 1 Try.underlying28 hi hz1 g xs.length cap (bcells xs) hs (hB.own.alloc _) ⟨w.heap.size, 0, none⟩ news.length mc (bcells news) hx (by rw [bcells_length]; omega)
    (fun j u hj => ?_) (bcells_one news) hcap (fun w' ho hg => ?_)
  · have e : (⟨w.heap.size, 0, none⟩ : Addr).add j = ⟨w.heap.size, j, none⟩ := by unfold Addr.add; split <;> simp_all
    rw [e, World.cell?_alloc_new]
    simpa using hj
  · have hl : (xs ++ news).length = xs.length + news.length := List.length_append
    rw [hl] at h
    refine h w' ⟨?_, hB.ge, ?_⟩ ?_
    · rw [hl, bcells_append]; exact ho
    · have h1 := hg.size
      have h2 := hB.sz
      simp at h1; omega
    · exact ((Below.refl _ _).alloc hB.sz _).grown hg (by have := hB.sz; simp; omega) (fun k hk => by cases hk; exact hB.ge)

/-- 'make([]byte, 0, n)'. -/
theorem wpList_mk {c : Operand} {base : Nat} (n : Nat) (C : Int) (hc : a.eval c = .int .i64 C) (hC : C = (n : Int)) (hn : n ≤ 1000000000) (hb : base ≤ w.heap.size)
    (h : ∀ w', Buf w' base w.heap.size n [] → Below base w w' → wpList Try.prog ops Q rest (a.put dst (.slice (some ⟨w.heap.size, 0, none⟩) 0 n)) w') :
    wpList Try.prog ops Q ({ dst, op := .makeSlice 28 (.const (.int .i64 0)) c, type := ty, pos, after, guard := none } :: rest) a w := by
  obtain ⟨i0, hi, hz0, hz1, hz2⟩ := info_parts info5
  refine wpList_make_own _ rfl _ _ 28 rfl base 5 i0 (.int .u8 0) 1 Try.underlying28 hi hz0 hz1 .i64 .i64 C n rfl hc hC (by rw [hz2]; omega) (by unfold maxLen; omega) hb (fun w' ho hg => ?_)
  refine h w' ⟨ho, hb, Nat.le_trans hb hg.size⟩ ?_
  exact (Below.refl _ _).grown hg hb (fun k hk => by cases hk)

/-- 'string(b)'. -/
theorem wpList_str {base g cap : Nat} {xs : List UInt8} (x : Tmp) (hB : Buf w base g cap xs) (hx : a.eval (.tmp x) = .slice (some ⟨g, 0, none⟩) xs.length cap)
    (h : wpList Try.prog ops Q rest (a.put dst (.string ⟨xs.toArray⟩)) w) :
    wpList Try.prog ops Q ({ dst, op := .convert 28 9 (.tmp x), type := ty, pos, after, guard := none } :: rest) a w := by
  refine wpList_plain rfl fun K hK => ?_
  unfold Oper.wp execOp
  simp only [hx]
  rw [Sem.run_bind, run_convert_bytes_back w 28 9 5 ⟨g, 0, none⟩ cap xs Try.underlying28 Try.underlying5 Try.underlying9 (fun j hj => ?_)]
  · exact hK _ _ h
  · have e : (⟨g, 0, none⟩ : Addr).add j = ⟨g, j, none⟩ := by unfold Addr.add; split <;> simp_all
    rw [e, hB.own.cellAt j (by omega)]
    simp [bcells, hj]
end

theorem Buf.len {w : World} {base g cap : Nat} {xs ys : List UInt8} (h : Buf w base g cap xs) (e : xs = ys) : Buf w base g cap ys := e ▸ h
theorem take_snoc (s : ByteArray) (k : Nat) (h : k < s.size) : s.data.toList.take (k + 1) = s.data.toList.take k ++ [s[k]] := by
  rw [List.take_succ_eq_append_getElem (by simpa using h)]; rfl
end Go.Proofs.Qxb6626927a
