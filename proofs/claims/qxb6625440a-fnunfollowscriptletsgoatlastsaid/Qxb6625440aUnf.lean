/-
  told, ZZtold, ZZcursorOn, unfollow, ZZunfollow.
-/
import Derived.Test.Qxb6625440aFeed
namespace Go.Proofs.Qxb6625440a
open Go.RowKit Go.MuLone

set_option maxHeartbeats 400000 in
theorem told_any (F T : Nat) (fi : Int) (a : Option Addr) (n c : Nat) (w : World) (f2 : w.cell? ⟨F, 2, none⟩ = some (.pointer (some ⟨T, 0, none⟩))) (t0 : w.cell? ⟨T, 0, none⟩ = some (.int .u64 fi)) (t2 : w.cell? ⟨T, 2, none⟩ = some (.slice a n c)) (h0 : 0 ≤ fi) (hm : fi + n ≤ 18446744073709551615) :
    Calls Try.prog 24 #[.pointer (some ⟨F, 0, none⟩)] w fun e w' => e = .returned (.int .u64 (fi + n)) ∧ Below w.heap.size w w' := by
  go_enter Try.func24, Try.ntmps24
  go_wp2
  go_quiet (fail)
  go_wp2
  go_ret
  exact ⟨rfl, below_drawn _ _ _⟩
set_option maxHeartbeats 400000 in
theorem zztold_any (C F T : Nat) (st fi : Int) (bv : Value) (a : Option Addr) (n c : Nat) (w : World) (hC : Cur w C F) (hF : Fd w F T st) (hT : Bk w T fi bv (.slice a n c)) (h0 : 0 ≤ fi) (hm : fi + n ≤ 18446744073709551615) :
    Calls Try.prog 14 #[.pointer (some ⟨C, 0, none⟩)] w fun e w' => e = .returned (.int .u64 (fi + n)) ∧ Below w.heap.size w w' := by
  unfold Cur at hC
  go_enter Try.func14, Try.ntmps14
  go_wp2_with fail
  refine (told_any F T fi a n c w hF.f2 hT.t0 hT.t2 h0 hm).mono ?_
  rintro e w1 ⟨rfl, hB⟩
  go_wp2
  go_ret
  exact ⟨rfl, hB⟩
set_option maxHeartbeats 400000 in
theorem on_any (C F T : Nat) (st : Int) (w : World) (hC : Cur w C F) (hF : Fd w F T st) :
    Calls Try.prog 11 #[.pointer (some ⟨C, 0, none⟩)] w fun e w' => e = .returned (.pointer (some ⟨w.heap.size, 0, none⟩)) ∧ Cur w' w.heap.size F ∧ Below w.heap.size w w' := by
  unfold Cur at hC
  obtain ⟨f0, f2, f3, z0, z2, z3⟩ := hF
  go_enter Try.func11, Try.ntmps11
  go_wp2
  go_region
  go_wp2
  go_ret
  refine ⟨rfl, ?_, ((Below.refl _ _).alloc (Nat.le_refl _) _).drew⟩
  simp [Cur, go_sem]
set_option maxHeartbeats 400000 in
/-- A stream goes while others stay (or the tail holds nothing). -/
theorem unf_keep (C F T : Nat) (st : Int) (w : World) (hC : Cur w C F) (hF : Fd w F T st) (h1 : -9223372036854775807 ≤ st) (h2 : st ≤ 9223372036854775807) (hs : st ≠ 1) :
    Calls Try.prog 23 #[.pointer (some ⟨C, 0, none⟩)] w fun e w' => e = .returned (.tuple #[]) ∧ Fd w' F T (st - 1) ∧ Only F w w' := by
  unfold Cur at hC
  obtain ⟨f0, f2, f3, z0, z2, z3⟩ := hF
  have hne : (st - 1 == 0) = false := by simp; omega
  go_enter_defers Try.func23, Try.ntmps23
  go_wp2_with (go_at_call 25; refine (lock_free Try.muLib ⟨F, 0, none⟩ _ f0 z0).mono ?_; rintro e w' ⟨rfl, rfl⟩)
  refine leaves_cons (f := 26) (args := #[.pointer (some ⟨F, 0, none⟩)]) (by simp) (by simp [go_sem]) ?_
  refine (unlock_deferred Try.muLib ⟨F, 0, none⟩ .returning _ ?_ ?_).mono ?_
  · exact (World.cell?_setCell_other _ ⟨F, 3, none⟩ ⟨F, 0, none⟩ _ (by simp)).trans (World.cell?_setCell_same w ⟨F, 0, none⟩ (.int .i32 1) f0)
  · simp [z0]
  rintro e u' w'' ⟨rfl, rfl, rfl⟩
  refine ⟨_, results_none rfl _ _ _, rfl, ?_, (((Only.refl _ _).set _ _).set _ _).set _ _⟩
  have g0 : (w.setCell ⟨F, 0, none⟩ (.int .i32 1)).cell? ⟨F, 0, none⟩ = some (.int .i32 1) := World.cell?_setCell_same w ⟨F, 0, none⟩ (.int .i32 1) f0
  have g3 : (w.setCell ⟨F, 0, none⟩ (.int .i32 1)).cell? ⟨F, 3, none⟩ = some (.int .i64 st) := (World.cell?_setCell_other _ ⟨F, 0, none⟩ ⟨F, 3, none⟩ _ (by simp)).trans f3
  refine ⟨?_, ?_, ?_, by simp [z0], by simp [z2], by simp [z3]⟩
  · exact World.cell?_setCell_same _ _ _ ((World.cell?_setCell_other _ ⟨F, 3, none⟩ ⟨F, 0, none⟩ _ (by simp)).trans g0)
  · exact (World.cell?_setCell_other _ ⟨F, 0, none⟩ ⟨F, 2, none⟩ _ (by simp)).trans ((World.cell?_setCell_other _ ⟨F, 3, none⟩ ⟨F, 2, none⟩ _ (by simp)).trans ((World.cell?_setCell_other _ ⟨F, 0, none⟩ ⟨F, 2, none⟩ _ (by simp)).trans f2))
  · exact (World.cell?_setCell_other _ ⟨F, 0, none⟩ ⟨F, 3, none⟩ _ (by simp)).trans (World.cell?_setCell_same _ _ _ g3)
set_option maxHeartbeats 400000 in
/-- The last stream goes; the tail holds nothing: it stays. -/
theorem unf_empty (C F T : Nat) (fi : Int) (bv : Value) (a : Option Addr) (c : Nat) (w : World) (hC : Cur w C F) (hF : Fd w F T 1) (hT : Bk w T fi bv (.slice a 0 c)) :
    Calls Try.prog 23 #[.pointer (some ⟨C, 0, none⟩)] w fun e w' => e = .returned (.tuple #[]) ∧ Fd w' F T 0 ∧ Only F w w' := by
  unfold Cur at hC
  obtain ⟨f0, f2, f3, z0, z2, z3⟩ := hF
  obtain ⟨t0, t1, t2, t3, t4, _⟩ := hT
  go_enter_defers Try.func23, Try.ntmps23
  go_wp2_with (go_at_call 25; refine (lock_free Try.muLib ⟨F, 0, none⟩ _ f0 z0).mono ?_; rintro e w' ⟨rfl, rfl⟩)
  refine leaves_cons (f := 26) (args := #[.pointer (some ⟨F, 0, none⟩)]) (by simp) (by simp [go_sem]) ?_
  refine (unlock_deferred Try.muLib ⟨F, 0, none⟩ .returning _ ?_ ?_).mono ?_
  · exact (World.cell?_setCell_other _ ⟨F, 3, none⟩ ⟨F, 0, none⟩ _ (by simp)).trans (World.cell?_setCell_same w ⟨F, 0, none⟩ (.int .i32 1) f0)
  · simp [z0]
  rintro e u' w'' ⟨rfl, rfl, rfl⟩
  refine ⟨_, results_none rfl _ _ _, rfl, ?_, (((Only.refl _ _).set _ _).set _ _).set _ _⟩
  have g0 : (w.setCell ⟨F, 0, none⟩ (.int .i32 1)).cell? ⟨F, 0, none⟩ = some (.int .i32 1) := World.cell?_setCell_same w ⟨F, 0, none⟩ (.int .i32 1) f0
  have g3 : (w.setCell ⟨F, 0, none⟩ (.int .i32 1)).cell? ⟨F, 3, none⟩ = some (.int .i64 1) := (World.cell?_setCell_other _ ⟨F, 0, none⟩ ⟨F, 3, none⟩ _ (by simp)).trans f3
  refine ⟨?_, ?_, ?_, by simp [z0], by simp [z2], by simp [z3]⟩
  · exact World.cell?_setCell_same _ _ _ ((World.cell?_setCell_other _ ⟨F, 3, none⟩ ⟨F, 0, none⟩ _ (by simp)).trans g0)
  · exact (World.cell?_setCell_other _ ⟨F, 0, none⟩ ⟨F, 2, none⟩ _ (by simp)).trans ((World.cell?_setCell_other _ ⟨F, 3, none⟩ ⟨F, 2, none⟩ _ (by simp)).trans ((World.cell?_setCell_other _ ⟨F, 0, none⟩ ⟨F, 2, none⟩ _ (by simp)).trans f2))
  · exact (World.cell?_setCell_other _ ⟨F, 0, none⟩ ⟨F, 3, none⟩ _ (by simp)).trans (World.cell?_setCell_same _ _ _ g3)
set_option maxHeartbeats 400000 in
/-- The last stream goes; the tail holds events: a new one is laid. -/
theorem unf_go (C F T : Nat) (fi : Int) (bv : Value) (a : Option Addr) (n c : Nat) (w : World) (hC : Cur w C F) (hF : Fd w F T 1) (hT : Bk w T fi bv (.slice a n c)) (hne : T ≠ F) (hn : 0 < n) (h0 : 0 ≤ fi) (hm : fi + n ≤ 18446744073709551615) :
    Calls Try.prog 23 #[.pointer (some ⟨C, 0, none⟩)] w fun e w' => e = .returned (.tuple #[]) ∧ (∃ T', w.heap.size ≤ T' ∧ Fd w' F T' 0 ∧ Bk w' T' (fi + n) (.slice none 0 0) (.slice none 0 0)) ∧ Only F w w' := by
  unfold Cur at hC
  obtain ⟨f0, f2, f3, z0, z2, z3⟩ := hF
  obtain ⟨t0, t1, t2, t3, t4, _⟩ := hT
  go_enter_defers Try.func23, Try.ntmps23
  go_wp2_with (go_at_call 25; refine (lock_free Try.muLib ⟨F, 0, none⟩ _ f0 z0).mono ?_; rintro e w' ⟨rfl, rfl⟩)
  have hF1 : F < w.heap.size := lt_of_cell f0
  have g0 : (w.setCell ⟨F, 0, none⟩ (.int .i32 1)).cell? ⟨F, 0, none⟩ = some (.int .i32 1) := World.cell?_setCell_same w ⟨F, 0, none⟩ (.int .i32 1) f0
  have g3 : (w.setCell ⟨F, 0, none⟩ (.int .i32 1)).cell? ⟨F, 3, none⟩ = some (.int .i64 1) := (World.cell?_setCell_other _ ⟨F, 0, none⟩ ⟨F, 3, none⟩ _ (by simp)).trans f3
  have g2 : (w.setCell ⟨F, 0, none⟩ (.int .i32 1)).cell? ⟨F, 2, none⟩ = some (.pointer (some ⟨T, 0, none⟩)) := (World.cell?_setCell_other _ ⟨F, 0, none⟩ ⟨F, 2, none⟩ _ (by simp)).trans f2
  have hO1 : Only F w (w.setCell ⟨F, 0, none⟩ (.int .i32 1)) := (Only.refl _ _).set _ _
  have y0 : (w.setCell ⟨F, 0, none⟩ (.int .i32 1)).frozen? ⟨F, 0, none⟩ = false := by simp [z0]
  have y2 : (w.setCell ⟨F, 0, none⟩ (.int .i32 1)).frozen? ⟨F, 2, none⟩ = false := by simp [z2]
  have y3 : (w.setCell ⟨F, 0, none⟩ (.int .i32 1)).frozen? ⟨F, 3, none⟩ = false := by simp [z3]
  generalize w.setCell ⟨F, 0, none⟩ (.int .i32 1) = w1 at *
  have k0 : (w1.setCell ⟨F, 3, none⟩ (.int .i64 0)).cell? ⟨F, 0, none⟩ = some (.int .i32 1) := (World.cell?_setCell_other _ ⟨F, 3, none⟩ ⟨F, 0, none⟩ _ (by simp)).trans g0
  have k2 : (w1.setCell ⟨F, 3, none⟩ (.int .i64 0)).cell? ⟨F, 2, none⟩ = some (.pointer (some ⟨T, 0, none⟩)) := (World.cell?_setCell_other _ ⟨F, 3, none⟩ ⟨F, 2, none⟩ _ (by simp)).trans g2
  have k3 : (w1.setCell ⟨F, 3, none⟩ (.int .i64 0)).cell? ⟨F, 3, none⟩ = some (.int .i64 0) := World.cell?_setCell_same _ _ _ g3
  have hO2 : Only F w (w1.setCell ⟨F, 3, none⟩ (.int .i64 0)) := hO1.set _ _
  have x0 : (w1.setCell ⟨F, 3, none⟩ (.int .i64 0)).frozen? ⟨F, 0, none⟩ = false := by simp [y0]
  have x2 : (w1.setCell ⟨F, 3, none⟩ (.int .i64 0)).frozen? ⟨F, 2, none⟩ = false := by simp [y2]
  have x3 : (w1.setCell ⟨F, 3, none⟩ (.int .i64 0)).frozen? ⟨F, 3, none⟩ = false := by simp [y3]
  generalize w1.setCell ⟨F, 3, none⟩ (.int .i64 0) = w2 at *
  have hF2 : F < w2.heap.size := lt_of_cell k0
  refine (told_any F T fi a n c w2 k2 (hO2.cell hne t0) (hO2.cell hne t2) h0 hm).mono ?_
  rintro e w3 ⟨rfl, hB3⟩
  have m0 := below_cell hB3 k0
  have m2 := below_cell hB3 k2
  have m3 := below_cell hB3 k3
  have u0 : w3.frozen? ⟨F, 0, none⟩ = false := (hB3.frozen (p := ⟨F, 0, none⟩) hF2).trans x0
  have u2 : w3.frozen? ⟨F, 2, none⟩ = false := (hB3.frozen (p := ⟨F, 2, none⟩) hF2).trans x2
  have u3 : w3.frozen? ⟨F, 3, none⟩ = false := (hB3.frozen (p := ⟨F, 3, none⟩) hF2).trans x3
  have hO3 : Only F w w3 := hO2.trans (Only.of hB3 (Nat.le_of_lt hF2))
  have hF3 : F < w3.heap.size := lt_of_cell m0
  clear z0 z2 z3 y0 y2 y3 x0 x2 x3 f0 f2 f3 g0 g2 g3 k0 k2 k3 hO1 hO2 hB3 hC t0 t1 t2 t3 t4
  go_wp2
  have hsz : (w3.setCell ⟨F, 2, none⟩ (.pointer (some ⟨w3.heap.size, 0, none⟩))).heap.size = w3.heap.size := by simp
  have j0 : (w3.setCell ⟨F, 2, none⟩ (.pointer (some ⟨w3.heap.size, 0, none⟩))).cell? ⟨F, 0, none⟩ = some (.int .i32 1) := (World.cell?_setCell_other _ ⟨F, 2, none⟩ ⟨F, 0, none⟩ _ (by simp)).trans m0
  have j2 : (w3.setCell ⟨F, 2, none⟩ (.pointer (some ⟨w3.heap.size, 0, none⟩))).cell? ⟨F, 2, none⟩ = some (.pointer (some ⟨w3.heap.size, 0, none⟩)) := World.cell?_setCell_same _ _ _ m2
  have j3 : (w3.setCell ⟨F, 2, none⟩ (.pointer (some ⟨w3.heap.size, 0, none⟩))).cell? ⟨F, 3, none⟩ = some (.int .i64 0) := (World.cell?_setCell_other _ ⟨F, 2, none⟩ ⟨F, 3, none⟩ _ (by simp)).trans m3
  have v0 : (w3.setCell ⟨F, 2, none⟩ (.pointer (some ⟨w3.heap.size, 0, none⟩))).frozen? ⟨F, 0, none⟩ = false := by simp [u0]
  have v2 : (w3.setCell ⟨F, 2, none⟩ (.pointer (some ⟨w3.heap.size, 0, none⟩))).frozen? ⟨F, 2, none⟩ = false := by simp [u2]
  have v3 : (w3.setCell ⟨F, 2, none⟩ (.pointer (some ⟨w3.heap.size, 0, none⟩))).frozen? ⟨F, 3, none⟩ = false := by simp [u3]
  have hO4 : Only F w (w3.setCell ⟨F, 2, none⟩ (.pointer (some ⟨w3.heap.size, 0, none⟩))) := hO3.set _ _
  have hsw : w.heap.size ≤ w3.heap.size := hO3.below.size
  generalize hw4 : w3.setCell ⟨F, 2, none⟩ (.pointer (some ⟨w3.heap.size, 0, none⟩)) = w4 at *
  clear hw4
  rw [← hsz] at j2 hsw hF3
  have hB5 : Below w4.heap.size w4 (w4.alloc (.cells #[.int .u64 (fi + n), .slice none 0 0, .slice none 0 0, .string ⟨#[]⟩, .pointer none] 46)) := (Below.refl _ _).alloc (Nat.le_refl _) _
  have hO5 : Only F w (w4.alloc (.cells #[.int .u64 (fi + n), .slice none 0 0, .slice none 0 0, .string ⟨#[]⟩, .pointer none] 46)) := hO4.alloc (Nat.le_of_lt hF3) _
  have hb : Bk (w4.alloc (.cells #[.int .u64 (fi + n), .slice none 0 0, .slice none 0 0, .string ⟨#[]⟩, .pointer none] 46)) w4.heap.size (fi + n) (.slice none 0 0) (.slice none 0 0) := by
    refine ⟨?_, ?_, ?_, ?_, ?_, ⟨_, _, Go.Deep.blk_alloc_new _ _⟩⟩ <;> simp [go_sem]
  generalize hw5 : w4.alloc (.cells #[.int .u64 (fi + n), .slice none 0 0, .slice none 0 0, .string ⟨#[]⟩, .pointer none] 46) = w5 at *
  have i0 := below_cell hB5 j0
  have i2 := below_cell hB5 j2
  have i3 := below_cell hB5 j3
  have t0 : w5.frozen? ⟨F, 0, none⟩ = false := (hB5.frozen (p := ⟨F, 0, none⟩) hF3).trans v0
  have t2 : w5.frozen? ⟨F, 2, none⟩ = false := (hB5.frozen (p := ⟨F, 2, none⟩) hF3).trans v2
  have t3 : w5.frozen? ⟨F, 3, none⟩ = false := (hB5.frozen (p := ⟨F, 3, none⟩) hF3).trans v3
  refine leaves_cons (f := 26) (args := #[.pointer (some ⟨F, 0, none⟩)]) (by simp) (by simp [go_sem]) ?_
  refine (unlock_deferred Try.muLib ⟨F, 0, none⟩ .returning _ i0 t0).mono ?_
  rintro e u' w'' ⟨rfl, rfl, rfl⟩
  refine ⟨_, results_none rfl _ _ _, rfl, ⟨w4.heap.size, hsw, ⟨?_, ?_, ?_, by simp [t0], by simp [t2], by simp [t3]⟩, hb.only ((Only.refl F _).set _ _) (by omega)⟩, hO5.set _ _⟩
  · exact World.cell?_setCell_same _ _ _ i0
  · exact (World.cell?_setCell_other _ ⟨F, 0, none⟩ ⟨F, 2, none⟩ _ (by simp)).trans i2
  · exact (World.cell?_setCell_other _ ⟨F, 0, none⟩ ⟨F, 3, none⟩ _ (by simp)).trans i3

/-! ZZunfollow. -/
theorem zzunf {C : Nat} {w : World} {R : World → Prop} (h : Calls Try.prog 23 #[.pointer (some ⟨C, 0, none⟩)] w fun e w' => e = .returned (.tuple #[]) ∧ R w') :
    Calls Try.prog 12 #[.pointer (some ⟨C, 0, none⟩)] w fun e w' => e = .returned (.tuple #[]) ∧ R w' := by
  go_enter Try.func12, Try.ntmps12
  go_wp2_with fail
  refine h.mono ?_
  rintro e w1 ⟨rfl, hR⟩
  go_wp2
  go_end0
  exact ⟨rfl, hR⟩
end Go.Proofs.Qxb6625440a
