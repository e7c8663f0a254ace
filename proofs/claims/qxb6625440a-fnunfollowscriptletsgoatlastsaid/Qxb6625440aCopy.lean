/-
  THE WALKS over b1WellFormed, b1CopyBytes, b1CopyInts, b1EqBytes, b1EqInts.
-/
import Derived.Test.Qxb6625440aFeed
import Derived.Deep.OwnRows
namespace Go.Proofs.Qxb6625440a
open Go.RowKit

theorem info5 : (Try.prog.info? 5).map (fun i => (i.zero, i.size, i.bytes)) = some (some (.int .u8 0), 1, 1) := by kernel_rfl
theorem info3 : (Try.prog.info? 3).map (fun i => (i.zero, i.size, i.bytes)) = some (some (.int .i64 0), 1, 8) := by kernel_rfl

/-- The n cells from x on hold the numbers z 0, z 1 .. -/
def Cells (k : IntKind) (w : World) (x : Addr) (n : Nat) (z : Nat → Int) : Prop := ∀ i, i < n → w.cell? (x.add i) = some (.int k (z i))
/-- The slice v holds n numbers, z 0, z 1 .. -/
def Rw (k : IntKind) (w : World) (v : Value) (n : Nat) (z : Nat → Int) : Prop :=
  (v = .slice none 0 0 ∧ n = 0) ∨ ∃ x c, v = .slice (some x) n c ∧ Cells k w x n z

theorem add_block (x : Addr) (i : Nat) : (x.add i).block = x.block := by unfold Addr.add; split <;> rfl
theorem Cells.below {k : IntKind} {w w' : World} {x : Addr} {n : Nat} {z : Nat → Int} (h : Cells k w x n z) (hb : Below w.heap.size w w') : Cells k w' x n z := fun i hi => below_cell hb (h i hi)
theorem Rw.below {k : IntKind} {w w' : World} {v : Value} {n : Nat} {z : Nat → Int} (h : Rw k w v n z) (hb : Below w.heap.size w w') : Rw k w' v n z := by
  rcases h with h | ⟨x, c, h1, h2⟩
  · exact .inl h
  · exact .inr ⟨x, c, h1, h2.below hb⟩

set_option maxHeartbeats 400000 in
/-- b1WellFormed reads only. -/
theorem wf_some (av : Option Addr) (n2 c2 : Nat) (x : Addr) (n c : Nat) (z : Nat → Int) (hl : n ≤ 1048576) (w : World) (h : Cells .i64 w x n z) :
    Calls Try.prog 6 #[.slice av n2 c2, .slice (some x) n c] w fun e w' => (∃ b, e = .returned (.bool b)) ∧ w' = w := by
  go_enter Try.func6, Try.ntmps6
  go_wp2
  go_loopw [5, 6] (fun p i wr => ∃ (k : Nat) (q : Int), k ≤ n ∧ i = .int .i64 k ∧ p = .int .i64 q ∧ wr = w) (fun _ i _ => n - (intOf i).toNat)
  case atStart => exact ⟨0, 0, Nat.zero_le _, rfl, rfl, rfl⟩
  case round =>
    obtain ⟨k, q, hk, rfl, rfl, rfl⟩ := hrel
    by_cases hlt : k < n
    · have hc := h k hlt
      generalize z k = zk at hc
      clear h
      by_cases hq : zk < q
      · go_wp2
        go_ret
        exact ⟨⟨_, rfl⟩, rfl⟩
      · go_wp2
        go_roundw
        case rel =>
          go_light
          exact ⟨k + 1, zk, by omega, by go_num, rfl, trivial⟩
        case measure =>
          go_light
          simp only [intOf]; omega
    · clear h
      go_wp2
      go_ret
      exact ⟨⟨_, rfl⟩, rfl⟩

set_option maxHeartbeats 400000 in
theorem wf_nil (av : Option Addr) (n2 c2 : Nat) (w : World) :
    Calls Try.prog 6 #[.slice av n2 c2, .slice none 0 0] w fun e w' => (∃ b, e = .returned (.bool b)) ∧ w' = w := by
  go_enter Try.func6, Try.ntmps6
  go_wp2
  refine wp_loop_rounds 1 ?_
  rw [rounds_succ]
  go_wp2
  go_ret
  exact ⟨⟨_, rfl⟩, rfl⟩

set_option maxHeartbeats 400000 in
theorem eqb_any (v1 v2 : Value) (n : Nat) (z : Nat → Int) (hl : n ≤ 1048576) (w : World) (h1 : Rw .u8 w v1 n z) (h2 : Rw .u8 w v2 n z) :
    Calls Try.prog 20 #[v1, v2] w fun e w' => e = .returned (.bool true) ∧ Below w.heap.size w w' := by
  obtain ⟨a1, c1, rfl⟩ : ∃ a c, v1 = .slice a n c := by
    rcases h1 with ⟨rfl, rfl⟩ | ⟨x, c, rfl, _⟩
    · exact ⟨none, 0, rfl⟩
    · exact ⟨some x, c, rfl⟩
  obtain ⟨a2, c2, rfl⟩ : ∃ a c, v2 = .slice a n c := by
    rcases h2 with ⟨rfl, rfl⟩ | ⟨x, c, rfl, _⟩
    · exact ⟨none, 0, rfl⟩
    · exact ⟨some x, c, rfl⟩
  have H1 : Hid (∀ i, i < n → ∃ x, a1 = some x ∧ w.cell? (x.add i) = some (.int .u8 (z i))) := by
    show ∀ i, i < n → _
    intro i hi
    rcases h1 with ⟨h, rfl⟩ | ⟨x, c, h, hc⟩
    · omega
    · cases h; exact ⟨_, rfl, hc i hi⟩
  have H2 : Hid (∀ i, i < n → ∃ x, a2 = some x ∧ w.cell? (x.add i) = some (.int .u8 (z i))) := by
    show ∀ i, i < n → _
    intro i hi
    rcases h2 with ⟨h, rfl⟩ | ⟨x, c, h, hc⟩
    · omega
    · cases h; exact ⟨_, rfl, hc i hi⟩
  clear h1 h2
  go_enter Try.func20, Try.ntmps20
  go_wp2
  go_loopw [5] (fun i wr => ∃ k : Nat, k ≤ n ∧ i = .int .i64 k ∧ Below w.heap.size w wr) (fun i _ => n - (intOf i).toNat)
  case atStart => exact ⟨0, Nat.zero_le _, rfl, Below.refl _ _⟩
  case round =>
    obtain ⟨k, hk, rfl, hB⟩ := hrel
    by_cases hlt : k < n
    · obtain ⟨x1, rfl, hc1⟩ := H1.out k hlt
      obtain ⟨x2, rfl, hc2⟩ := H2.out k hlt
      generalize z k = zk at hc1 hc2
      have hd1 : wr.cell? (x1.add k) = some (.int .u8 zk) := below_cell hB hc1
      have hd2 : wr.cell? (x2.add k) = some (.int .u8 zk) := below_cell hB hc2
      clear H1 H2 hc1 hc2
      go_wp2
      go_quiet (fail)
      go_wp2
      go_roundw
      case rel =>
        go_light
        exact ⟨k + 1, by omega, by go_num, hB.trans (below_drawn _ _ _)⟩
      case measure =>
        go_light
        simp only [intOf]; omega
    · clear H1 H2
      go_wp2
      go_ret
      exact ⟨rfl, hB⟩
set_option maxHeartbeats 400000 in
theorem eqi_any (v1 v2 : Value) (n : Nat) (z : Nat → Int) (hl : n ≤ 1048576) (w : World) (h1 : Rw .i64 w v1 n z) (h2 : Rw .i64 w v2 n z) :
    Calls Try.prog 21 #[v1, v2] w fun e w' => e = .returned (.bool true) ∧ Below w.heap.size w w' := by
  obtain ⟨a1, c1, rfl⟩ : ∃ a c, v1 = .slice a n c := by
    rcases h1 with ⟨rfl, rfl⟩ | ⟨x, c, rfl, _⟩
    · exact ⟨none, 0, rfl⟩
    · exact ⟨some x, c, rfl⟩
  obtain ⟨a2, c2, rfl⟩ : ∃ a c, v2 = .slice a n c := by
    rcases h2 with ⟨rfl, rfl⟩ | ⟨x, c, rfl, _⟩
    · exact ⟨none, 0, rfl⟩
    · exact ⟨some x, c, rfl⟩
  have H1 : Hid (∀ i, i < n → ∃ x, a1 = some x ∧ w.cell? (x.add i) = some (.int .i64 (z i))) := by
    show ∀ i, i < n → _
    intro i hi
    rcases h1 with ⟨h, rfl⟩ | ⟨x, c, h, hc⟩
    · omega
    · cases h; exact ⟨_, rfl, hc i hi⟩
  have H2 : Hid (∀ i, i < n → ∃ x, a2 = some x ∧ w.cell? (x.add i) = some (.int .i64 (z i))) := by
    show ∀ i, i < n → _
    intro i hi
    rcases h2 with ⟨h, rfl⟩ | ⟨x, c, h, hc⟩
    · omega
    · cases h; exact ⟨_, rfl, hc i hi⟩
  clear h1 h2
  go_enter Try.func21, Try.ntmps21
  go_wp2
  go_loopw [5] (fun i wr => ∃ k : Nat, k ≤ n ∧ i = .int .i64 k ∧ Below w.heap.size w wr) (fun i _ => n - (intOf i).toNat)
  case atStart => exact ⟨0, Nat.zero_le _, rfl, Below.refl _ _⟩
  case round =>
    obtain ⟨k, hk, rfl, hB⟩ := hrel
    by_cases hlt : k < n
    · obtain ⟨x1, rfl, hc1⟩ := H1.out k hlt
      obtain ⟨x2, rfl, hc2⟩ := H2.out k hlt
      generalize z k = zk at hc1 hc2
      have hd1 : wr.cell? (x1.add k) = some (.int .i64 zk) := below_cell hB hc1
      have hd2 : wr.cell? (x2.add k) = some (.int .i64 zk) := below_cell hB hc2
      clear H1 H2 hc1 hc2
      go_wp2
      go_quiet (fail)
      go_wp2
      go_roundw
      case rel =>
        go_light
        exact ⟨k + 1, by omega, by go_num, hB.trans (below_drawn _ _ _)⟩
      case measure =>
        go_light
        simp only [intOf]; omega
    · clear H1 H2
      go_wp2
      go_ret
      exact ⟨rfl, hB⟩

/-- Block g, of n cells, holds z 0 .. z (k-1) so far; it may be written. -/
structure Part (kd : IntKind) (w : World) (g n k : Nat) (z : Nat → Int) : Prop where
  done : ∀ i, i < k → w.cell? ⟨g, i, none⟩ = some (.int kd (z i))
  there : ∀ i, i < n → ∃ u, w.cell? ⟨g, i, none⟩ = some u
  fz : ∀ i, w.frozen? ⟨g, i, none⟩ = false
theorem Part.step {kd : IntKind} {w : World} {g n k : Nat} {z : Nat → Int} (h : Part kd w g n k z) (hk : k < n) : Part kd (w.setCell ⟨g, k, none⟩ (.int kd (z k))) g n (k + 1) z := by
  refine ⟨fun i hi => ?_, fun i hi => ?_, fun i => by simp [h.fz]⟩
  · by_cases e : i = k
    · subst e
      obtain ⟨u, hu⟩ := h.there i hk
      exact World.cell?_setCell_same _ _ _ hu
    · exact (World.cell?_setCell_other _ ⟨g, k, none⟩ ⟨g, i, none⟩ _ (fun h => e (congrArg Addr.off h).symm)).trans (h.done i (by omega))
  · by_cases e : i = k
    · subst e
      obtain ⟨u, hu⟩ := h.there i hk
      exact ⟨_, World.cell?_setCell_same _ _ _ hu⟩
    · obtain ⟨u, hu⟩ := h.there i hi
      exact ⟨u, (World.cell?_setCell_other _ ⟨g, k, none⟩ ⟨g, i, none⟩ _ (fun h => e (congrArg Addr.off h).symm)).trans hu⟩
theorem add_new (g i : Nat) : (⟨g, 0, none⟩ : Addr).add i = ⟨g, i, none⟩ := by unfold Addr.add; split <;> simp_all
theorem Part.row {kd : IntKind} {w : World} {g n : Nat} {z : Nat → Int} (h : Part kd w g n n z) : Rw kd w (.slice (some ⟨g, 0, none⟩) n n) n z :=
  .inr ⟨_, _, rfl, fun i hi => by rw [add_new]; exact h.done i hi⟩
theorem Part.new (kd : IntKind) (w : World) (n : Nat) (z : Nat → Int) (u : Value) (t : TypeId) : Part kd (w.alloc (.cells (madeCells #[u] n) t)) w.heap.size n 0 z :=
  ⟨fun _ hi => absurd hi (Nat.not_lt_zero _), fun _ hi => ⟨u, (World.rowIs_made w u n t).cell hi⟩, fun i => (World.rowIs_made w u n t).frozen i⟩

theorem cpb_nil (w : World) : Calls Try.prog 7 #[.slice none 0 0] w fun e w' => e = .returned (.slice none 0 0) ∧ w' = w := by
  have hen : ∀ w, (binOp .eql 23 (.slice none 0 0) (.slice none 0 0)).run Try.prog w = .ok (.bool true) w := fun _ => by kernel_rfl
  go_enter Try.func7, Try.ntmps7
  go_wp2
  go_ret
  exact ⟨rfl, rfl⟩
set_option maxHeartbeats 400000 in
theorem cpb_some (x : Addr) (n c : Nat) (z : Nat → Int) (hl : n ≤ 1048576) (w : World) (h : Cells .u8 w x n z) :
    Calls Try.prog 7 #[.slice (some x) n c] w fun e w' => ∃ v, e = .returned v ∧ Rw .u8 w' v n z ∧ Below w.heap.size w w' := by
  have hes : ∀ x n c w, (binOp .eql 23 (.slice (some x) n c) (.slice none 0 0)).run Try.prog w = .ok (.bool false) w := fun _ _ _ _ => by kernel_rfl
  have hmk := run_make_row' (P := Try.prog) 23 5 (.int .u8 0) 1 Try.underlying23 info5 rfl .i64 .i64 n (by omega) (by omega)
  have HC : Hid (Cells .u8 w x n z) := h
  clear h
  go_enter Try.func7, Try.ntmps7
  go_wp2
  have hp := Part.new .u8 w n z (.int .u8 0) 5
  have hb : Below w.heap.size w (w.alloc (.cells (madeCells #[.int .u8 0] n) 5)) := (Below.refl _ _).alloc (Nat.le_refl _) _
  generalize w.alloc (.cells (madeCells #[.int .u8 0] n) 5) = w1 at *
  generalize hg : w.heap.size = g at *
  go_loopw [4] (fun i wr => ∃ k : Nat, k ≤ n ∧ i = .int .i64 k ∧ Part .u8 wr g n k z ∧ Below g w wr) (fun i _ => n - (intOf i).toNat)
  case atStart => exact ⟨0, Nat.zero_le _, rfl, hp, hb⟩
  case round =>
    obtain ⟨k, hk, rfl, hP, hB⟩ := hrel
    by_cases hlt : k < n
    · have hc : wr.cell? (x.add k) = some (.int .u8 (z k)) := below_cell (hg ▸ hB) (HC.out k hlt)
      have hf := hP.fz k
      obtain ⟨u, hu⟩ := hP.there k hlt
      have hP' := hP.step hlt
      generalize z k = zk at hc hP'
      clear HC hp hb
      go_wp2
      go_roundw
      case rel =>
        go_light
        exact ⟨k + 1, by omega, by go_num, hP', hB.setCell (Nat.le_refl _) _⟩
      case measure =>
        go_light
        simp only [intOf]; omega
    · have hkn : k = n := by omega
      subst hkn
      clear HC
      go_wp2
      go_ret
      exact ⟨_, rfl, hP.row, hg ▸ hB⟩
theorem cpb_any (v : Value) (n : Nat) (z : Nat → Int) (hl : n ≤ 1048576) (w : World) (h : Rw .u8 w v n z) :
    Calls Try.prog 7 #[v] w fun e w' => ∃ v', e = .returned v' ∧ Rw .u8 w' v' n z ∧ Below w.heap.size w w' := by
  rcases h with ⟨rfl, rfl⟩ | ⟨x, c, rfl, h⟩
  · refine (cpb_nil w).mono ?_
    rintro e w1 ⟨rfl, rfl⟩
    exact ⟨_, rfl, .inl ⟨rfl, rfl⟩, Below.refl _ _⟩
  · exact cpb_some x n c z hl w h
theorem cpi_nil (w : World) : Calls Try.prog 8 #[.slice none 0 0] w fun e w' => e = .returned (.slice none 0 0) ∧ w' = w := by
  have hen : ∀ w, (binOp .eql 24 (.slice none 0 0) (.slice none 0 0)).run Try.prog w = .ok (.bool true) w := fun _ => by kernel_rfl
  go_enter Try.func8, Try.ntmps8
  go_wp2
  go_ret
  exact ⟨rfl, rfl⟩
set_option maxHeartbeats 400000 in
theorem cpi_some (x : Addr) (n c : Nat) (z : Nat → Int) (hl : n ≤ 1048576) (w : World) (h : Cells .i64 w x n z) :
    Calls Try.prog 8 #[.slice (some x) n c] w fun e w' => ∃ v, e = .returned v ∧ Rw .i64 w' v n z ∧ Below w.heap.size w w' := by
  have hes : ∀ x n c w, (binOp .eql 24 (.slice (some x) n c) (.slice none 0 0)).run Try.prog w = .ok (.bool false) w := fun _ _ _ _ => by kernel_rfl
  have hmk := run_make_row' (P := Try.prog) 24 3 (.int .i64 0) 8 Try.underlying24 info3 rfl .i64 .i64 n (by omega) (by omega)
  have HC : Hid (Cells .i64 w x n z) := h
  clear h
  go_enter Try.func8, Try.ntmps8
  go_wp2
  have hp := Part.new .i64 w n z (.int .i64 0) 3
  have hb : Below w.heap.size w (w.alloc (.cells (madeCells #[.int .i64 0] n) 3)) := (Below.refl _ _).alloc (Nat.le_refl _) _
  generalize w.alloc (.cells (madeCells #[.int .i64 0] n) 3) = w1 at *
  generalize hg : w.heap.size = g at *
  go_loopw [4] (fun i wr => ∃ k : Nat, k ≤ n ∧ i = .int .i64 k ∧ Part .i64 wr g n k z ∧ Below g w wr) (fun i _ => n - (intOf i).toNat)
  case atStart => exact ⟨0, Nat.zero_le _, rfl, hp, hb⟩
  case round =>
    obtain ⟨k, hk, rfl, hP, hB⟩ := hrel
    by_cases hlt : k < n
    · have hc : wr.cell? (x.add k) = some (.int .i64 (z k)) := below_cell (hg ▸ hB) (HC.out k hlt)
      have hf := hP.fz k
      obtain ⟨u, hu⟩ := hP.there k hlt
      have hP' := hP.step hlt
      generalize z k = zk at hc hP'
      clear HC hp hb
      go_wp2
      go_roundw
      case rel =>
        go_light
        exact ⟨k + 1, by omega, by go_num, hP', hB.setCell (Nat.le_refl _) _⟩
      case measure =>
        go_light
        simp only [intOf]; omega
    · have hkn : k = n := by omega
      subst hkn
      clear HC
      go_wp2
      go_ret
      exact ⟨_, rfl, hP.row, hg ▸ hB⟩
theorem cpi_any (v : Value) (n : Nat) (z : Nat → Int) (hl : n ≤ 1048576) (w : World) (h : Rw .i64 w v n z) :
    Calls Try.prog 8 #[v] w fun e w' => ∃ v', e = .returned v' ∧ Rw .i64 w' v' n z ∧ Below w.heap.size w w' := by
  rcases h with ⟨rfl, rfl⟩ | ⟨x, c, rfl, h⟩
  · refine (cpi_nil w).mono ?_
    rintro e w1 ⟨rfl, rfl⟩
    exact ⟨_, rfl, .inl ⟨rfl, rfl⟩, Below.refl _ _⟩
  · exact cpi_some x n c z hl w h
theorem wf_any (av : Option Addr) (n2 c2 : Nat) (v : Value) (n : Nat) (z : Nat → Int) (hl : n ≤ 1048576) (w : World) (h : Rw .i64 w v n z) :
    Calls Try.prog 6 #[.slice av n2 c2, v] w fun e w' => (∃ b, e = .returned (.bool b)) ∧ w' = w := by
  rcases h with ⟨rfl, rfl⟩ | ⟨x, c, rfl, h⟩
  · exact wf_nil av n2 c2 w
  · exact wf_some av n2 c2 x n c z hl w h
end Go.Proofs.Qxb6625440a
