/-
  THE FEED, ITS CURSOR AND ITS BLOCKS IN MEMORY; the ZZ functions.
-/
import Derived.Test.Qxb6625440aLocks
import Derived.Conc.MuLone
import Derived.WalkKit
import Derived.WalkSpells
import Derived.WalkLawsBesides
import Derived.Deep.QuietTactic
import Derived.BigQuiet
import Derived.Deep.Light
import Derived.Defers
import Derived.Deep.OwnRows
import Derived.LaidEqlPtr
namespace Go.Proofs.Qxb6625440a
open Go.RowKit Go.MuLone

theorem lt_of_cell {w : World} {a : Addr} {v : Value} (h : w.cell? a = some v) : a.block < w.heap.size := by
  by_cases hb : a.block < w.heap.size
  · exact hb
  · exfalso
    have : w.heap[a.block]? = none := Array.getElem?_eq_none (by omega)
    unfold World.cell? at h
    rw [this] at h
    cases h

/-- All but block F, of the blocks that are there, reads as it did; below F nothing is touched. -/
structure Only (F : Nat) (w w' : World) : Prop where
  below : Below F w w'
  other : ∀ k, k ≠ F → k < w.heap.size → w'.heap[k]? = w.heap[k]?

theorem Only.refl (F : Nat) (w : World) : Only F w w := ⟨Below.refl _ _, fun _ _ _ => rfl⟩
theorem Only.trans {F : Nat} {a b c : World} (h : Only F a b) (k : Only F b c) : Only F a c :=
  ⟨h.below.trans k.below, fun i hi hl => (k.other i hi (Nat.lt_of_lt_of_le hl h.below.size)).trans (h.other i hi hl)⟩
theorem Only.set {F : Nat} {a w : World} (h : Only F a w) (o : Nat) (v : Value) : Only F a (w.setCell ⟨F, o, none⟩ v) :=
  ⟨h.below.setCell (Nat.le_refl _) _, fun k hk hl => (Below.heap_setCell w ⟨F, o, none⟩ v k hk).trans (h.other k hk hl)⟩
theorem Only.alloc {F : Nat} {a w : World} (h : Only F a w) (hF : F ≤ w.heap.size) (o : Obj) : Only F a (w.alloc o) :=
  ⟨h.below.alloc hF _, fun k hk hl => (Below.heap_alloc w o k (Nat.lt_of_lt_of_le hl h.below.size)).trans (h.other k hk hl)⟩
theorem Only.of {F : Nat} {w w' : World} (h : Below w.heap.size w w') (hF : F ≤ w.heap.size) : Only F w w' := ⟨h.mono hF, fun k _ hl => h.block k hl⟩
theorem Only.cell {F : Nat} {w w' : World} (h : Only F w w') {b o : Nat} {v : Value} (hb : b ≠ F) (hc : w.cell? ⟨b, o, none⟩ = some v) : w'.cell? ⟨b, o, none⟩ = some v :=
  (World.cell?_of_block (w := w) (h.other b hb (lt_of_cell hc))).trans hc
theorem below_cell {w w' : World} {a : Addr} {v : Value} (h : Below w.heap.size w w') (hc : w.cell? a = some v) : w'.cell? a = some v := (h.cell (lt_of_cell hc)).trans hc
theorem below_drawn (B : Nat) (w : World) (n : Nat) : Below B w (w.drewN n) := ⟨rfl, rfl, rfl, Nat.le_refl _, fun _ _ => rfl⟩

/-- The cursor at block C leads to the feed at block F. -/
def Cur (w : World) (C F : Nat) : Prop := w.cell? ⟨C, 0, none⟩ = some (.pointer (some ⟨F, 0, none⟩))
/-- The feed at block F: its lock free, its tail at block T, its number of streams. -/
structure Fd (w : World) (F T : Nat) (st : Int) : Prop where
  f0 : w.cell? ⟨F, 0, none⟩ = some (.int .i32 0)
  f2 : w.cell? ⟨F, 2, none⟩ = some (.pointer (some ⟨T, 0, none⟩))
  f3 : w.cell? ⟨F, 3, none⟩ = some (.int .i64 st)
  z0 : w.frozen? ⟨F, 0, none⟩ = false
  z2 : w.frozen? ⟨F, 2, none⟩ = false
  z3 : w.frozen? ⟨F, 3, none⟩ = false
/-- The block at T: first, buf, ends; not sealed, not linked. -/
structure Bk (w : World) (T : Nat) (fi : Int) (bv ev : Value) : Prop where
  t0 : w.cell? ⟨T, 0, none⟩ = some (.int .u64 fi)
  t1 : w.cell? ⟨T, 1, none⟩ = some bv
  t2 : w.cell? ⟨T, 2, none⟩ = some ev
  t3 : w.cell? ⟨T, 3, none⟩ = some (.string ⟨#[]⟩)
  t4 : w.cell? ⟨T, 4, none⟩ = some (.pointer none)
  bl : ∃ c t, w.heap[T]? = some (.cells c t (0, 0))

theorem Cur.below {w w' : World} {C F : Nat} (h : Cur w C F) (hb : Below w.heap.size w w') : Cur w' C F := below_cell hb h
theorem Fd.below {w w' : World} {F T : Nat} {st : Int} (h : Fd w F T st) (hb : Below w.heap.size w w') : Fd w' F T st :=
  have hl : F < w.heap.size := lt_of_cell h.f0
  ⟨below_cell hb h.f0, below_cell hb h.f2, below_cell hb h.f3, (hb.frozen (p := ⟨F, 0, none⟩) hl).trans h.z0, (hb.frozen (p := ⟨F, 2, none⟩) hl).trans h.z2, (hb.frozen (p := ⟨F, 3, none⟩) hl).trans h.z3⟩
theorem Bk.below {w w' : World} {T : Nat} {fi : Int} {bv ev : Value} (h : Bk w T fi bv ev) (hb : Below w.heap.size w w') : Bk w' T fi bv ev :=
  ⟨below_cell hb h.t0, below_cell hb h.t1, below_cell hb h.t2, below_cell hb h.t3, below_cell hb h.t4, by rw [hb.block T (lt_of_cell h.t0)]; exact h.bl⟩
theorem Cur.only {w w' : World} {C F : Nat} (h : Cur w C F) (hb : Only F w w') (hC : C ≠ F) : Cur w' C F := hb.cell hC h
theorem Bk.only {w w' : World} {T F : Nat} {fi : Int} {bv ev : Value} (h : Bk w T fi bv ev) (hb : Only F w w') (hT : T ≠ F) : Bk w' T fi bv ev :=
  ⟨hb.cell hT h.t0, hb.cell hT h.t1, hb.cell hT h.t2, hb.cell hT h.t3, hb.cell hT h.t4, by rw [hb.other T hT (lt_of_cell h.t0)]; exact h.bl⟩

theorem info46 : (Try.prog.info? 46).map (fun i => i.size) = some 5 := by kernel_rfl
theorem eql_same (a : Addr) (w : World) : (binOp .eql 31 (.pointer (some a)) (.pointer (some a))).run Try.prog w = .ok (.bool true) w := by
  obtain ⟨i, hi, _⟩ := Option.map_eq_some_iff.1 info46
  exact run_eql_ptr_same w a Try.underlying31 hi
theorem eql_other {a b : Addr} {w : World} (hne : a ≠ b) (ha : ∃ c t, w.heap[a.block]? = some (.cells c t (0, 0))) (hb : ∃ c t, w.heap[b.block]? = some (.cells c t (0, 0))) : (binOp .eql 31 (.pointer (some a)) (.pointer (some b))).run Try.prog w = .ok (.bool false) w := by
  obtain ⟨i, hi, hs⟩ := Option.map_eq_some_iff.1 info46
  obtain ⟨_, _, ha⟩ := ha
  obtain ⟨_, _, hb⟩ := hb
  exact run_eql_ptr_other w Try.underlying31 hi (by omega) hne ha hb
theorem neq_same (a : Addr) (w : World) : (binOp .neq 31 (.pointer (some a)) (.pointer (some a))).run Try.prog w = .ok (.bool false) w := by
  obtain ⟨i, hi, _⟩ := Option.map_eq_some_iff.1 info46
  have h : ∀ d : Nat, (Op.equalIn (d + 1) 31 (.pointer (some a)) (.pointer (some a))).run Try.prog w = .ok true w := fun d => by
    simp [Op.equalIn, run_underlying Try.underlying31, sizeOf, typeInfo, hi, run_sameAddr_same]
  simp only [binOp]
  simp [Op.equal, Op.maxDepth, h 9999]

set_option maxHeartbeats 400000 in
theorem new_any (st fi : Int) (a2 : Option Addr) (n2 c2 : Nat) (a3 : Option Addr) (n3 c3 : Nat) (w : World) :
    Calls Try.prog 9 #[.int .i64 st, .int .u64 fi, .slice a2 n2 c2, .slice a3 n3 c3] w fun e w' => e = .returned (.pointer (some ⟨w.heap.size + 2, 0, none⟩)) ∧ Cur w' (w.heap.size + 2) (w.heap.size + 1) ∧ Fd w' (w.heap.size + 1) w.heap.size st ∧ Bk w' w.heap.size fi (.slice a2 n2 c2) (.slice a3 n3 c3) ∧ Below w.heap.size w w' := by
  go_enter Try.func9, Try.ntmps9
  go_wp2
  go_ret
  refine ⟨rfl, ?_, ⟨?_, ?_, ?_, ?_, ?_, ?_⟩, ⟨?_, ?_, ?_, ?_, ?_, ⟨_, _, (Go.Deep.blk_alloc_lt _ _ _ (by simp; omega)).trans ((Go.Deep.blk_alloc_lt _ _ _ (by simp)).trans (Go.Deep.blk_alloc_new _ _))⟩⟩, ?_⟩
  all_goals first | (simp [Cur, go_sem]; done) | exact (((Below.refl _ _).alloc (Nat.le_refl _) _).alloc (by simp) _).alloc (by simp; omega) _ | skip
theorem tail_any (C F T : Nat) (st : Int) (w : World) (hC : Cur w C F) (hF : Fd w F T st) :
    Calls Try.prog 10 #[.pointer (some ⟨C, 0, none⟩)] w fun e w' => e = .returned (.pointer (some ⟨T, 0, none⟩)) ∧ w' = w := by
  unfold Cur at hC
  obtain ⟨_, h2, _, _, _, _⟩ := hF
  go_enter Try.func10, Try.ntmps10
  go_wp2
  go_ret
  exact ⟨rfl, rfl⟩
theorem streams_any (C F T : Nat) (st : Int) (w : World) (hC : Cur w C F) (hF : Fd w F T st) :
    Calls Try.prog 13 #[.pointer (some ⟨C, 0, none⟩)] w fun e w' => e = .returned (.int .i64 st) ∧ w' = w := by
  unfold Cur at hC
  obtain ⟨_, _, h3, _, _, _⟩ := hF
  go_enter Try.func13, Try.ntmps13
  go_wp2
  go_ret
  exact ⟨rfl, rfl⟩
theorem first_any (T : Nat) (fi : Int) (bv ev : Value) (w : World) (h : Bk w T fi bv ev) :
    Calls Try.prog 15 #[.pointer (some ⟨T, 0, none⟩)] w fun e w' => e = .returned (.int .u64 fi) ∧ w' = w := by
  obtain ⟨h0, h1, h2, h3, h4, _⟩ := h
  go_enter Try.func15, Try.ntmps15
  go_wp2
  go_ret
  exact ⟨rfl, rfl⟩
theorem buf_any (T : Nat) (fi : Int) (bv ev : Value) (w : World) (h : Bk w T fi bv ev) :
    Calls Try.prog 16 #[.pointer (some ⟨T, 0, none⟩)] w fun e w' => e = .returned bv ∧ w' = w := by
  obtain ⟨h0, h1, h2, h3, h4, _⟩ := h
  go_enter Try.func16, Try.ntmps16
  go_wp2
  go_ret
  exact ⟨rfl, rfl⟩
theorem ends_any (T : Nat) (fi : Int) (bv ev : Value) (w : World) (h : Bk w T fi bv ev) :
    Calls Try.prog 17 #[.pointer (some ⟨T, 0, none⟩)] w fun e w' => e = .returned ev ∧ w' = w := by
  obtain ⟨h0, h1, h2, h3, h4, _⟩ := h
  go_enter Try.func17, Try.ntmps17
  go_wp2
  go_ret
  exact ⟨rfl, rfl⟩
theorem end_any (T : Nat) (fi : Int) (bv ev : Value) (w : World) (h : Bk w T fi bv ev) :
    Calls Try.prog 18 #[.pointer (some ⟨T, 0, none⟩)] w fun e w' => e = .returned (.string ⟨#[]⟩) ∧ w' = w := by
  obtain ⟨h0, h1, h2, h3, h4, _⟩ := h
  go_enter Try.func18, Try.ntmps18
  go_wp2
  go_ret
  exact ⟨rfl, rfl⟩
theorem next_any (T : Nat) (fi : Int) (bv ev : Value) (w : World) (h : Bk w T fi bv ev) :
    Calls Try.prog 19 #[.pointer (some ⟨T, 0, none⟩)] w fun e w' => e = .returned (.pointer none) ∧ w' = w := by
  obtain ⟨h0, h1, h2, h3, h4, _⟩ := h
  go_enter Try.func19, Try.ntmps19
  go_wp2
  go_ret
  exact ⟨rfl, rfl⟩
end Go.Proofs.Qxb6625440a
