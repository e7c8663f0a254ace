/-
  A PaneData, opened: eighteen cells, each of its kind.
-/
import Derived.Test.Qxb6626884aMain
import Derived.ProofKit
import Derived.OpenShut
import Derived.ShutString
import Derived.ChangeOld
import Derived.Below
namespace Go.Proofs.Qxb6626884a
open Go.ChangeShapes Go.WideShapes Go.ChangeAt Go.RowKit

theorem list18 {α : Type} {l : List α} (h : l.length = 18) : ∃ c0 c1 c2 c3 c4 c5 c6 c7 c8 c9 c10 c11 c12 c13 c14 c15 c16 c17, l = [c0, c1, c2, c3, c4, c5, c6, c7, c8, c9, c10, c11, c12, c13, c14, c15, c16, c17] := by
  match l, h with
  | [c0, c1, c2, c3, c4, c5, c6, c7, c8, c9, c10, c11, c12, c13, c14, c15, c16, c17], _ => exact ⟨c0, c1, c2, c3, c4, c5, c6, c7, c8, c9, c10, c11, c12, c13, c14, c15, c16, c17, rfl⟩

section
variable {H : Type} {enc : TypeId × Value → H} {w : World} {base : Nat} {spare : Nat → Bool} {held : Bool}
theorem one_of {P : Program} {fs : Array Field} {cs : List Value} {xs : List (DataW H × List MemPlace)} {n k : Nat} (hf : ∀ (i : Nat) (f : Field), fs[i]? = some f → DataW.trod enc P w base spare held n f.type ((cs.drop f.offset).take (P.cellsOf f.type)) = xs[i]?) (hlen : xs.length = k)
    (i : Nat) {f : Field} {c : Value} (hfi : fs[i]? = some f) (hone : (P.cellsOf f.type == 1 && decide (i < k)) = true) (hc : cs[f.offset]? = some c) : DataW.trod enc P w base spare held n f.type [c] = some (xs.getD i (.nil, [])) := by
  simp only [Bool.and_eq_true, beq_iff_eq, decide_eq_true_eq] at hone
  have h := hf i f hfi
  have e : (cs.drop f.offset).take (P.cellsOf f.type) = [c] := by
    rw [hone.1]
    obtain ⟨hlt, hv⟩ := List.getElem?_eq_some_iff.1 hc
    rw [List.drop_eq_getElem_cons hlt, hv]; rfl
  rw [e] at h
  rw [h]
  have hi : i < xs.length := by omega
  simp [hi]

/-- A number fits int64. -/
def I64 (n : Int) : Prop := -9223372036854775808 ≤ n ∧ n ≤ 9223372036854775807
theorem i64_of {n : Int} (h : (Lit.int .i64 n).wf = true) : I64 n := bounds_i64 h

theorem open_pd {fuel : Nat} {cs : List Value} {x : DataW H × List MemPlace} (h : DataW.trod enc Try.prog w base spare held fuel 23 cs = some x) : ∃ d : PD, cs = d.cells.toList ∧ I64 d.since ∧ I64 d.rev := by
  obtain ⟨xs, n, _, _, hl, hlen, hf⟩ := DataW.trod_struct Try.underlying23 h
  have hl' : cs.length = 18 := hl.trans (by kernel_rfl)
  obtain ⟨c0, c1, c2, c3, c4, c5, c6, c7, c8, c9, c10, c11, c12, c13, c14, c15, c16, c17, rfl⟩ := list18 hl'
  obtain ⟨v0, e0, _, w0⟩ := DataW.trod_int Try.underlying3 (one_of hf hlen 0 rfl (by kernel_rfl) rfl)
  obtain ⟨v1, e1, _, w1⟩ := DataW.trod_int Try.underlying3 (one_of hf hlen 1 rfl (by kernel_rfl) rfl)
  obtain ⟨v2, e2, _⟩ := DataW.trod_bool Try.underlying4 (one_of hf hlen 2 rfl (by kernel_rfl) rfl)
  obtain ⟨v3, e3, _, w3⟩ := DataW.trod_string Try.underlying9 (one_of hf hlen 3 rfl (by kernel_rfl) rfl)
  obtain ⟨v4, e4, _, w4⟩ := DataW.trod_string Try.underlying9 (one_of hf hlen 4 rfl (by kernel_rfl) rfl)
  obtain ⟨v5, e5, _, w5⟩ := DataW.trod_string Try.underlying9 (one_of hf hlen 5 rfl (by kernel_rfl) rfl)
  obtain ⟨v6, e6, _, w6⟩ := DataW.trod_int Try.underlying2 (one_of hf hlen 6 rfl (by kernel_rfl) rfl)
  obtain ⟨v7, e7, _, w7⟩ := DataW.trod_string Try.underlying9 (one_of hf hlen 7 rfl (by kernel_rfl) rfl)
  obtain ⟨v8, e8, _, w8⟩ := DataW.trod_string Try.underlying9 (one_of hf hlen 8 rfl (by kernel_rfl) rfl)
  obtain ⟨v9, e9, _, w9⟩ := DataW.trod_string Try.underlying9 (one_of hf hlen 9 rfl (by kernel_rfl) rfl)
  obtain ⟨v10, e10, _, w10⟩ := DataW.trod_string Try.underlying9 (one_of hf hlen 10 rfl (by kernel_rfl) rfl)
  obtain ⟨v11, e11, _, w11⟩ := DataW.trod_string Try.underlying9 (one_of hf hlen 11 rfl (by kernel_rfl) rfl)
  obtain ⟨v12, e12, _, w12⟩ := DataW.trod_string Try.underlying9 (one_of hf hlen 12 rfl (by kernel_rfl) rfl)
  obtain ⟨v13, e13, _, w13⟩ := DataW.trod_int Try.underlying2 (one_of hf hlen 13 rfl (by kernel_rfl) rfl)
  obtain ⟨v14, e14, _, w14⟩ := DataW.trod_string Try.underlying9 (one_of hf hlen 14 rfl (by kernel_rfl) rfl)
  obtain ⟨v15, e15, _, w15⟩ := DataW.trod_string Try.underlying9 (one_of hf hlen 15 rfl (by kernel_rfl) rfl)
  obtain ⟨v16, e16, _, w16⟩ := DataW.trod_string Try.underlying9 (one_of hf hlen 16 rfl (by kernel_rfl) rfl)
  obtain ⟨v17, e17, _, w17⟩ := DataW.trod_int Try.underlying2 (one_of hf hlen 17 rfl (by kernel_rfl) rfl)
  simp only [List.cons.injEq, and_true] at e0 e1 e2 e3 e4 e5 e6 e7 e8 e9 e10 e11 e12 e13 e14 e15 e16 e17
  subst e0 e1 e2 e3 e4 e5 e6 e7 e8 e9 e10 e11 e12 e13 e14 e15 e16 e17
  exact ⟨⟨v0, v1, v2, v3, v4, v5, v6, v7, v8, v9, v10, v11, v12, v13, v14, v15, v16, v17⟩, rfl, i64_of w6, i64_of w17⟩

/-- A PaneData that came in by value. -/
theorem open_pdv {r : Reach} {b0 : Nat} {v : Value} {d : DataW H} {p : List MemPlace} (hv : Value.okWide Try.prog w r b0 23 v) (h : DataW.Trod enc Try.prog w base spare held 23 v d p) : ∃ d : PD, v = .agg d.cells ∧ I64 d.since ∧ I64 d.rev := by
  obtain ⟨cs, rfl, hsz⟩ := okWide_struct Try.underlying23 hv
  obtain ⟨fuel, hf⟩ := h
  obtain ⟨q, he, hi⟩ := open_pd (cs := cs.toList) (by simpa [Value.cells] using hf)
  exact ⟨q, by rw [Array.toList_inj.1 he], hi⟩
end
end Go.Proofs.Qxb6626884a
