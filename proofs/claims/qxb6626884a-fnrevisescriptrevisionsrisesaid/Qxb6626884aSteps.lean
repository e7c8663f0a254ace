/-
  A slice of steps, opened.
-/
import Derived.Test.Qxb6626884aOpen
import Derived.Deep.Slices
namespace Go.Proofs.Qxb6626884a
open Go.ChangeShapes Go.WideShapes Go.ChangeAt Go.RowKit

def pd0 : PD := ⟨0, 0, false, .empty, .empty, .empty, 0, .empty, .empty, .empty, .empty, .empty, .empty, 0, .empty, .empty, .empty, 0⟩

theorem choose2 {n : Nat} {p : Nat → PD → Int → Prop} (h : ∀ i, i < n → ∃ x y, p i x y) : ∃ (f : Nat → PD) (g : Nat → Int), ∀ i, i < n → p i (f i) (g i) := by
  classical
  refine ⟨fun i => if hi : i < n then Classical.choose (h i hi) else pd0, fun i => if hi : i < n then Classical.choose (Classical.choose_spec (h i hi)) else 0, fun i hi => ?_⟩
  simp only [dif_pos hi]
  exact Classical.choose_spec (Classical.choose_spec (h i hi))

section
variable {H : Type} {enc : TypeId × Value → H} {w : World} {base : Nat} {spare : Nat → Bool} {held : Bool}

/-- One step's nineteen cells. -/
theorem open_step {fuel : Nat} {cs : List Value} {x : DataW H × List MemPlace} (h : DataW.trod enc Try.prog w base spare held fuel 40 cs = some x) :
    ∃ (d : PD) (n : Int), cs.take 18 = d.cells.toList ∧ cs[18]? = some (.int .i64 n) ∧ I64 d.since ∧ I64 n := by
  obtain ⟨xs, m, _, _, hl, hlen, hf⟩ := DataW.trod_struct Try.underlying40 h
  have hl' : cs.length = 19 := hl.trans (by kernel_rfl)
  have f0 : DataW.trod enc Try.prog w base spare held m 23 ((cs.drop 0).take (Try.prog.cellsOf 23)) = xs[0]? := hf 0 _ rfl
  have f1 : DataW.trod enc Try.prog w base spare held m 2 ((cs.drop 18).take (Try.prog.cellsOf 2)) = xs[1]? := hf 1 _ rfl
  have c23 : Try.prog.cellsOf 23 = 18 := by kernel_rfl
  have c2 : Try.prog.cellsOf 2 = 1 := by kernel_rfl
  rw [c23, List.drop_zero] at f0
  rw [c2] at f1
  have x0 : xs[0]? = some (xs.getD 0 (.nil, [])) := by
    have : 0 < xs.length := by rw [hlen]; decide
    simp [this]
  have x1 : xs[1]? = some (xs.getD 1 (.nil, [])) := by
    have : 1 < xs.length := by rw [hlen]; decide
    simp [this]
  obtain ⟨d, hd, hs, _⟩ := open_pd (f0.trans x0)
  obtain ⟨n, hn, _, wn⟩ := DataW.trod_int Try.underlying2 (f1.trans x1)
  refine ⟨d, n, hd, ?_, hs, i64_of wn⟩
  have : cs[18]? = ((cs.drop 18).take 1)[0]? := by simp
  rw [this, hn]; rfl

/-- What a script that came in is: of no elements; or its steps lie one behind another. -/
theorem open_steps {fuel len cap : Nat} {ad : Option Addr} {x : DataW H × List MemPlace} (h : DataW.trod enc Try.prog w base (fun _ => true) held fuel 37 [.slice ad len cap] = some x) :
    len = 0 ∨ ∃ (b off : Nat) (F : Nat → PD) (N : Nat → Int), ad = some ⟨b, off, none⟩ ∧ len ≤ 9223372036854775807 ∧ b < w.heap.size ∧
      (∀ i, i < len → w.rangeAt b (off + i * 19) (F i).cells.toList) ∧ (∀ i, i < len → w.cell? ⟨b, off + i * 19 + 18, none⟩ = some (.int .i64 (N i))) ∧
      (∀ i, i < len → I64 (F i).since) ∧ (∀ i, i < len → I64 (N i)) := by
  rcases Nat.eq_zero_or_pos len with h0 | hpos
  · exact .inl h0
  right
  have c40 : Try.prog.cellsOf 40 = 19 := by kernel_rfl
  rcases Deep.open_slice Try.underlying37 h with ⟨hcs, _⟩ | ⟨a, len', cap', m, n, D, Pl, hcs, _, hl, hm, hmm, _, hx⟩
  · simp at hcs; omega
  simp at hcs
  obtain ⟨rfl, rfl, rfl⟩ := hcs
  simp at hmm
  subst hmm
  rw [c40] at hx
  have hcell : ∀ i, i < len → ∃ (d : PD) (n : Int), (∀ j v, d.cells.toList[j]? = some v → w.cell? ((a.add (i * 19)).add j) = some v) ∧ w.cell? ((a.add (i * 19)).add 18) = some (.int .i64 n) ∧ I64 d.since ∧ I64 n := by
    intro i hi
    obtain ⟨cs', h1, h2⟩ := hx i (by omega)
    obtain ⟨_, hlen, hc⟩ := World.cells?_some h1
    obtain ⟨d, n, hd, hn, is, iN⟩ := open_step h2
    refine ⟨d, n, fun j v hv => ?_, ?_, is, iN⟩
    · have hj : j < 18 := by
        have := (List.getElem?_eq_some_iff.1 hv).1
        exact this
      rw [hc j (by omega)]
      rw [← hd, List.getElem?_take_of_lt hj] at hv
      exact hv
    · rw [hc 18 (by omega)]; exact hn
  obtain ⟨b, off, spot⟩ := a
  obtain ⟨d0, n0, _, hc0, _⟩ := hcell 0 hpos
  have hspot : spot = none := by
    obtain ⟨d0, n0, hc, _⟩ := hcell 0 hpos
    have := hc 0 (.int .i64 d0.st) rfl
    simpa [Addr.add] using World.cell?_spot this
  subst hspot
  obtain ⟨F, N, hFN⟩ := choose2 hcell
  have hadd : ∀ i j, ((⟨b, off, none⟩ : Addr).add i).add j = ⟨b, off + i + j, none⟩ := by
    intro i j
    rw [Addr.add_mid, Addr.add_mid]
  refine ⟨b, off, F, N, rfl, by unfold maxLen at hm; omega, ?_, fun i hi j v hv => ?_, fun i hi => ?_, fun i hi => (hFN i hi).2.2.1, fun i hi => (hFN i hi).2.2.2⟩
  · have := World.block_lt_of_cell? w _ hc0
    rw [hadd] at this
    exact this
  · have := (hFN i hi).1 j v hv
    rw [hadd] at this
    exact this
  · have := (hFN i hi).2.1
    rw [hadd] at this
    exact this
end
end Go.Proofs.Qxb6626884a
