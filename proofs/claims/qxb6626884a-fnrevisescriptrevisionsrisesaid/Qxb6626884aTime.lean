/-
  THE WALKS over the time functions of the road: nsec, addSec, Add, sec, unixSec, UnixMicro, zzb1TimeAtMicro.
-/
import Derived.Test.Qxb6626884aRows
import Derived.WalkKit
import Derived.WalkSpells
import Derived.WalkLawsBesides
import Derived.Deep.Light
namespace Go.Proofs.Qxb6626884a
open Go.RowKit

/-- Bits of a wall word that holds nanoseconds alone. -/
theorem bits_nsec (n : Int) (h0 : 0 ≤ n) (h1 : n < 1000000000) : bits .and .u64 n 1073741823 = n := by
  obtain ⟨n, rfl⟩ := Int.eq_ofNat_of_zero_le h0
  have e := u64_and (n : Int) 1073741823 (by omega) (by omega) (by omega) (by omega)
  rw [e]
  have : (1073741823 : Int).toNat = 1073741823 := rfl
  rw [this, nat_mask30, Int.toNat_natCast]; omega
theorem bits_mono (n : Int) (h0 : 0 ≤ n) (h1 : n < 1000000000) : bits .and .u64 n 9223372036854775808 = 0 := by
  obtain ⟨n, rfl⟩ := Int.eq_ofNat_of_zero_le h0
  have e := u64_and (n : Int) 9223372036854775808 (by omega) (by omega) (by omega) (by omega)
  rw [e]
  have h : (9223372036854775808 : Int).toNat = 2 ^ 63 := rfl
  rw [h, Int.toNat_natCast, nat_bit]
  have : n / 2 ^ 63 = 0 := Nat.div_eq_of_lt (by omega)
  rw [this]; rfl
theorem bits_clear (n : Int) (h0 : 0 ≤ n) (h1 : n < 1000000000) : bits .andNot .u64 n 1073741823 = 0 := by
  obtain ⟨n, rfl⟩ := Int.eq_ofNat_of_zero_le h0
  have e := u64_andNot (n : Int) 1073741823 (by omega) (by omega) (by omega) (by omega)
  rw [e]
  have h2 : (1073741823 : Int).toNat = 1073741823 := rfl
  have h3 : (n : Nat) &&& (18446744073709551615 - 1073741823) = 0 := by
    refine Nat.eq_of_testBit_eq fun i => ?_
    rw [Nat.testBit_and, Nat.zero_testBit]
    rcases Nat.lt_or_ge i 30 with hi | hi
    · have : (18446744073709551615 - 1073741823 : Nat) = 2 ^ 30 * 17179869183 := rfl
      rw [this, Nat.testBit_two_pow_mul]
      simp; omega
    · have hlt : n < 2 ^ i := Nat.lt_of_lt_of_le (by omega : n < 2 ^ 30) (Nat.pow_le_pow_right (by omega) hi)
      rw [Nat.testBit_lt_two_pow hlt]; rfl
  rw [h2, Int.toNat_natCast, h3]; rfl
theorem bits_lay (n : Int) (h0 : 0 ≤ n) (h1 : n < 1000000000) : bits .or .u64 0 n = n := by
  obtain ⟨n, rfl⟩ := Int.eq_ofNat_of_zero_le h0
  have e := u64_or 0 (n : Int) (by omega) (by omega) (by omega) (by omega)
  rw [e]
  simp

set_option maxHeartbeats 400000 in
theorem nsec_any (b : Nat) (ns : Int) (h0 : 0 ≤ ns) (h1 : ns < 1000000000) (w : World) (hc : w.cell? ⟨b, 0, none⟩ = some (.int .u64 ns)) :
    Calls Try.prog 15 #[.pointer (some ⟨b, 0, none⟩)] w fun e w' => e = .returned (.int .i32 ns) ∧ w' = w := by
  have hb := bits_nsec ns h0 h1
  go_enter Try.func15, Try.ntmps15
  go_wp2
  go_ret
  exact ⟨rfl, rfl⟩

set_option maxHeartbeats 400000 in
theorem sec_any (b : Nat) (ns s : Int) (h0 : 0 ≤ ns) (h1 : ns < 1000000000) (w : World) (hc : w.cell? ⟨b, 0, none⟩ = some (.int .u64 ns)) (hc1 : w.cell? ⟨b, 1, none⟩ = some (.int .i64 s)) :
    Calls Try.prog 18 #[.pointer (some ⟨b, 0, none⟩)] w fun e w' => e = .returned (.int .i64 s) ∧ w' = w := by
  have hb := bits_mono ns h0 h1
  go_enter Try.func18, Try.ntmps18
  go_wp2
  go_ret
  exact ⟨rfl, rfl⟩
set_option maxHeartbeats 400000 in
theorem addSec_any (b : Nat) (ns s d : Int) (h0 : 0 ≤ ns) (h1 : ns < 1000000000) (hs : -4611686018427387904 ≤ s ∧ s ≤ 4611686018427387904) (hd : -4611686018427387904 < d ∧ d < 4611686018427387904) (w : World) (hc : w.cell? ⟨b, 0, none⟩ = some (.int .u64 ns)) (hc1 : w.cell? ⟨b, 1, none⟩ = some (.int .i64 s)) (hf : w.frozen? ⟨b, 1, none⟩ = false) :
    Calls Try.prog 16 #[.pointer (some ⟨b, 0, none⟩), .int .i64 d] w fun e w' => e = .returned (.tuple #[]) ∧ w' = w.setCell ⟨b, 1, none⟩ (.int .i64 (s + d)) := by
  have hb := bits_mono ns h0 h1
  obtain ⟨hs1, hs2⟩ := hs
  obtain ⟨hd1, hd2⟩ := hd
  by_cases hp : 0 < d
  · go_enter Try.func16, Try.ntmps16
    go_wp2
    go_end0
    exact ⟨rfl, rfl⟩
  · have hx : decide (s < s + d) = false := by simp; omega
    go_enter Try.func16, Try.ntmps16
    go_wp2
    go_end0
    exact ⟨rfl, rfl⟩
theorem tdiv_parts (d : Int) : ∃ q r : Int, d.tdiv 1000000000 = q ∧ d.tmod 1000000000 = r ∧ d = 1000000000 * q + r ∧ -1000000000 < r ∧ r < 1000000000 := by
  refine ⟨_, _, rfl, rfl, (Int.mul_tdiv_add_tmod d 1000000000).symm, ?_, ?_⟩
  · rcases Int.le_total 0 d with h | h
    · have := Int.tmod_nonneg 1000000000 h
      omega
    · have e := Int.neg_tmod d 1000000000
      have := Int.tmod_lt_of_pos (-d) (b := 1000000000) (by omega)
      omega
  · exact Int.tmod_lt_of_pos _ (by omega)
theorem ret_int {k : IntKind} {a b : Int} (h : a = b) : Ending.returned (.int k a) = .returned (.int k b) := by rw [h]
theorem agg_time {a a' b b' : Int} (ha : a = a') (hb : b = b') : Ending.returned (.agg #[.int .u64 a, .int .i64 b, .pointer none]) = .returned (.agg #[.int .u64 a', .int .i64 b', .pointer none]) := by rw [ha, hb]
set_option maxHeartbeats 400000 in
/-- (time.Time).Add on a wall-only time without a place. -/
theorem add_any (ns s d : Int) (h0 : 0 ≤ ns) (h1 : ns < 1000000000) (hs : -2305843009213693952 ≤ s ∧ s ≤ 2305843009213693952) (hd : -9223372036854775808 ≤ d ∧ d ≤ 9223372036854775807) (w : World) :
    Calls Try.prog 12 #[.agg #[.int .u64 ns, .int .i64 s, .pointer none], .int .i64 d] w fun e w' =>
      e = .returned (.agg #[.int .u64 ((ns + d) % 1000000000), .int .i64 (s + (ns + d) / 1000000000), .pointer none]) ∧ Below w.heap.size w w' := by
  obtain ⟨hs1, hs2⟩ := hs
  obtain ⟨hd1, hd2⟩ := hd
  obtain ⟨q, r, hq, hr, hqr, hr1, hr2⟩ := tdiv_parts d
  have HQ : Hid (d = 1000000000 * q + r) := hqr
  have hq1 : -9223372037 ≤ q := by omega
  have hq2 : q ≤ 9223372037 := by omega
  clear hqr
  have hb := bits_clear ns h0 h1
  have hn := bits_nsec ns h0 h1
  by_cases c1 : 1000000000 ≤ ns + r
  · have hl := bits_lay (ns + r - 1000000000) (by omega) (by omega)
    have hm := bits_mono (ns + r - 1000000000) (by omega) (by omega)
    go_enter Try.func12, Try.ntmps12
    go_wp2_with (go_at_call 15; go_in)
    refine (addSec_any _ (ns + r - 1000000000) s _ (by omega) (by omega) ⟨by omega, by omega⟩ ⟨by omega, by omega⟩ _ (by simp [go_sem]) (by simp [go_sem]) (by simp [go_sem])).mono ?_
    rintro e w' ⟨rfl, rfl⟩
    go_wp2
    refine bodyPost_ret (v := .agg #[.int .u64 (ns + r - 1000000000), .int .i64 (s + (q + 1)), .pointer none]) (by simp [results, Try.results12, go_sem]) rfl ⟨?_, ?_⟩
    · have := HQ.out; exact agg_time (by omega) (by omega)
    · exact ((Below.refl _ _).alloc (Nat.le_refl _) _).alloc (by simp) _
  by_cases c2 : ns + r < 0
  · have hl := bits_lay (ns + r + 1000000000) (by omega) (by omega)
    have hm := bits_mono (ns + r + 1000000000) (by omega) (by omega)
    go_enter Try.func12, Try.ntmps12
    go_wp2_with (go_at_call 15; go_in)
    refine (addSec_any _ (ns + r + 1000000000) s _ (by omega) (by omega) ⟨by omega, by omega⟩ ⟨by omega, by omega⟩ _ (by simp [go_sem]) (by simp [go_sem]) (by simp [go_sem])).mono ?_
    rintro e w' ⟨rfl, rfl⟩
    go_wp2
    refine bodyPost_ret (v := .agg #[.int .u64 (ns + r + 1000000000), .int .i64 (s + (q - 1)), .pointer none]) (by simp [results, Try.results12, go_sem]) rfl ⟨?_, ?_⟩
    · have := HQ.out; exact agg_time (by omega) (by omega)
    · exact ((Below.refl _ _).alloc (Nat.le_refl _) _).alloc (by simp) _
  · have hl := bits_lay (ns + r) (by omega) (by omega)
    have hm := bits_mono (ns + r) (by omega) (by omega)
    go_enter Try.func12, Try.ntmps12
    go_wp2_with (go_at_call 15; go_in)
    refine (addSec_any _ (ns + r) s _ (by omega) (by omega) ⟨by omega, by omega⟩ ⟨by omega, by omega⟩ _ (by simp [go_sem]) (by simp [go_sem]) (by simp [go_sem])).mono ?_
    rintro e w' ⟨rfl, rfl⟩
    go_wp2
    refine bodyPost_ret (v := .agg #[.int .u64 (ns + r), .int .i64 (s + q), .pointer none]) (by simp [results, Try.results12, go_sem]) rfl ⟨?_, ?_⟩
    · have := HQ.out; exact agg_time (by omega) (by omega)
    · exact ((Below.refl _ _).alloc (Nat.le_refl _) _).alloc (by simp) _

set_option maxHeartbeats 400000 in
/-- (time.Time).UnixMicro: of a wall-only time. -/
theorem unixMicro_any (ns s m : Int) (h0 : 0 ≤ ns) (h1 : ns < 1000000000) (hs : -2305843009213693952 ≤ s ∧ s ≤ 2305843009213693952) (w : World) (hm : -9223372036854775808 ≤ m ∧ m ≤ 9223372036854775807) (he : (s - 62135596800) * 1000000 + ns / 1000 = m) :
    Calls Try.prog 11 #[.agg #[.int .u64 ns, .int .i64 s, .pointer none]] w fun e w' => e = .returned (.int .i64 m) ∧ Below w.heap.size w w' := by
  obtain ⟨hs1, hs2⟩ := hs
  obtain ⟨hm1, hm2⟩ := hm
  have HE : Hid ((s - 62135596800) * 1000000 + ns / 1000 = m) := he
  clear he
  have hb := bits_mono ns h0 h1
  have hn := bits_nsec ns h0 h1
  go_enter Try.func11, Try.ntmps11
  go_wp2
  go_ret
  refine ⟨ret_int ?_, (Below.refl _ _).alloc (Nat.le_refl _) _⟩
  have := HE.out
  simp only [wrap64]; omega

/-- The three cells at block b hold the time x microseconds behind January 1 of the year 1, and may be written. -/
structure TimeAt (wr : World) (b : Nat) (x : Int) : Prop where
  c0 : wr.cell? ⟨b, 0, none⟩ = some (.int .u64 (x % 1000000 * 1000))
  c1 : wr.cell? ⟨b, 1, none⟩ = some (.int .i64 (x / 1000000))
  c2 : wr.cell? ⟨b, 2, none⟩ = some (.pointer none)
  f0 : wr.frozen? ⟨b, 0, none⟩ = false
  f1 : wr.frozen? ⟨b, 1, none⟩ = false
  f2 : wr.frozen? ⟨b, 2, none⟩ = false

theorem TimeAt.below {B b : Nat} {w w' : World} {x : Int} (h : TimeAt w b x) (hb : Below B w w') (hB : b < B) : TimeAt w' b x :=
  ⟨(hb.cell hB).trans h.c0, (hb.cell hB).trans h.c1, (hb.cell hB).trans h.c2, (hb.frozen hB).trans h.f0, (hb.frozen hB).trans h.f1, (hb.frozen hB).trans h.f2⟩

theorem TimeAt.other {b b' : Nat} {w : World} {x : Int} (h : TimeAt w b x) (hb : b ≠ b') (o : Nat) (v : Value) : TimeAt (w.setCell ⟨b', o, none⟩ v) b x := by
  have hne : ∀ k, (⟨b', o, none⟩ : Addr) ≠ ⟨b, k, none⟩ := fun k h => hb (by injection h with h1; exact h1.symm)
  have hc : ∀ k, (w.setCell ⟨b', o, none⟩ v).cell? ⟨b, k, none⟩ = w.cell? ⟨b, k, none⟩ := fun k => World.cell?_setCell_other _ _ _ _ (hne k)
  have hf : ∀ k, (w.setCell ⟨b', o, none⟩ v).frozen? ⟨b, k, none⟩ = w.frozen? ⟨b, k, none⟩ := fun k => World.frozen?_setCell _ _ _ _
  exact ⟨(hc 0).trans h.c0, (hc 1).trans h.c1, (hc 2).trans h.c2, (hf 0).trans h.f0, (hf 1).trans h.f1, (hf 2).trans h.f2⟩

/-- A time is stored over another. -/
theorem TimeAt.set {b : Nat} {w : World} {x y : Int} {v0 v1 v2 : Value} (h : TimeAt w b x) (e0 : v0 = .int .u64 (y % 1000000 * 1000)) (e1 : v1 = .int .i64 (y / 1000000)) (e2 : v2 = .pointer none) :
    TimeAt (((w.setCell ⟨b, 0, none⟩ v0).setCell ⟨b, 1, none⟩ v1).setCell ⟨b, 2, none⟩ v2) b y := by
  subst e0 e1 e2
  refine ⟨?_, ?_, ?_, ?_, ?_, ?_⟩ <;> simp [go_sem, h.c0, h.c1, h.c2, h.f0, h.f1, h.f2]

/-- Add of whole microseconds. -/
theorem add_micro (x y d : Int) (hd : d = y * 1000) (hx : -20000000000000000000 ≤ x ∧ x ≤ 20000000000000000000) (hy : -9223372036854775 ≤ y ∧ y ≤ 9223372036854775) (w : World) :
    Calls Try.prog 12 #[.agg #[.int .u64 (x % 1000000 * 1000), .int .i64 (x / 1000000), .pointer none], .int .i64 d] w fun e w' =>
      e = .returned (.agg #[.int .u64 ((x + y) % 1000000 * 1000), .int .i64 ((x + y) / 1000000), .pointer none]) ∧ Below w.heap.size w w' := by
  refine (add_any _ _ d (by omega) (by omega) ⟨by omega, by omega⟩ ⟨by omega, by omega⟩ w).mono ?_
  rintro e w' ⟨rfl, hb⟩
  exact ⟨agg_time (by omega) (by omega), hb⟩

/-- What zzb1TimeAtMicro has laid: its result's cells, and its variable t, which holds the time x. -/
structure TState (w wr : World) (x : Int) : Prop where
  t : TimeAt wr (w.heap.size + 1) x
  z : TimeAt wr w.heap.size 0
  b : Below w.heap.size w wr
  s : w.heap.size + 2 ≤ wr.heap.size
theorem TState.step {w wr w1 : World} {x : Int} (h : TState w wr x) (hb : Below wr.heap.size wr w1) : TState w w1 x :=
  have hs := h.s
  ⟨h.t.below hb (by omega), h.z.below hb (by omega), h.b.trans (hb.mono (by omega)), by have := hb.size; omega⟩
theorem TState.set {w wr : World} {x y : Int} {v0 v1 v2 : Value} (h : TState w wr x) (e0 : v0 = .int .u64 (y % 1000000 * 1000)) (e1 : v1 = .int .i64 (y / 1000000)) (e2 : v2 = .pointer none) :
    TState w (((wr.setCell ⟨w.heap.size + 1, 0, none⟩ v0).setCell ⟨w.heap.size + 1, 1, none⟩ v1).setCell ⟨w.heap.size + 1, 2, none⟩ v2) y :=
  ⟨h.t.set e0 e1 e2, ((h.z.other (by omega) _ _).other (by omega) _ _).other (by omega) _ _, ((h.b.setCell (by simp) _).setCell (by simp) _).setCell (by simp) _, by have := h.s; simpa [World.setCell] using this⟩
theorem TState.cast {w wr : World} {x y : Int} (h : TState w wr x) (e : x = y) : TState w wr y := e ▸ h

set_option maxHeartbeats 1000000 in
theorem timeAt_any (m : Int) (hm : -9223372036854775808 ≤ m ∧ m ≤ 9223372036854775807) (w : World) :
    Calls Try.prog 9 #[.int .i64 m] w fun e w' =>
      e = .returned (.agg #[.int .u64 ((62135596800000000 + m) % 1000000 * 1000), .int .i64 ((62135596800000000 + m) / 1000000), .pointer none]) ∧ Below w.heap.size w w' := by
  obtain ⟨hm1, hm2⟩ := hm
  go_enter Try.func9, Try.ntmps9
  go_wp2
  go_loopw [4] (fun rem wr => ∃ R : Int, 0 ≤ R ∧ R ≤ 62135596800000000 ∧ rem = .int .i64 R ∧ TState w wr (62135596800000000 - R)) (fun rem _ => (intOf rem).toNat)
  case atStart =>
    refine ⟨62135596800000000, by omega, by omega, rfl, ?_, ?_, ?_, ?_⟩
    · constructor <;> simp [go_sem]
    · constructor <;> simp [go_sem]
    · exact ((Below.refl _ _).alloc (Nat.le_refl _) _).alloc (by simp) _
    · simp
  case round =>
    obtain ⟨R, hR0, hR1, rfl, HT⟩ := hrel
    obtain ⟨t0, t1, t2, g0, g1, g2⟩ := HT.t
    by_cases hlt : 4503599627370496 < R
    · go_wp2_with fail
      refine (add_micro (62135596800000000 - R) 4503599627370496 _ (by omega) ⟨by omega, by omega⟩ ⟨by omega, by omega⟩ _).mono ?_
      rintro e w1 ⟨rfl, hb1⟩
      have HT1 := HT.step hb1
      clear t0 t1 t2 g0 g1 g2 HT hb1
      obtain ⟨t0, t1, t2, g0, g1, g2⟩ := HT1.t
      go_wp2
      go_roundw
      case rel =>
        go_light
        exact ⟨R - 4503599627370496, by omega, by omega, rfl, (HT1.set rfl rfl rfl).cast (by omega)⟩
      case measure =>
        go_light
        simp only [intOf]; omega
    · go_wp2_with fail
      refine (add_micro (62135596800000000 - R) R _ (by omega) ⟨by omega, by omega⟩ ⟨by omega, by omega⟩ _).mono ?_
      rintro e w1 ⟨rfl, hb1⟩
      have HT1 := HT.step hb1
      clear t0 t1 t2 g0 g1 g2 HT hb1
      have HT2 : TState w w1 (62135596800000000 - R) := HT1
      obtain ⟨t0, t1, t2, g0, g1, g2⟩ := HT1.t
      go_wp2
      clear t0 t1 t2 g0 g1 g2
      go_loopw [4] (fun rem wr => ∃ R : Int, -9223372036854775808 ≤ R ∧ R ≤ 9223372036854775807 ∧ rem = .int .i64 R ∧ TState w wr (62135596800000000 + m - R)) (fun rem _ => (intOf rem + 9223372036854775808).toNat)
      case atStart => exact ⟨m, hm1, hm2, rfl, (HT2.set (y := 62135596800000000) (by simp) (by simp) rfl).cast (by omega)⟩
      case round =>
        obtain ⟨S, hS0, hS1, rfl, HS⟩ := hrel
        obtain ⟨t0, t1, t2, g0, g1, g2⟩ := HS.t
        by_cases hlt : 4503599627370496 < S
        · go_wp2_with fail
          refine (add_micro (62135596800000000 + m - S) 4503599627370496 _ (by omega) ⟨by omega, by omega⟩ ⟨by omega, by omega⟩ _).mono ?_
          rintro e w1 ⟨rfl, hb1⟩
          have HT1 := HS.step hb1
          clear t0 t1 t2 g0 g1 g2 HS hb1
          obtain ⟨t0, t1, t2, g0, g1, g2⟩ := HT1.t
          go_wp2
          go_roundw
          case rel =>
            go_light
            exact ⟨S - 4503599627370496, by omega, by omega, rfl, (HT1.set rfl rfl rfl).cast (by omega)⟩
          case measure =>
            go_light
            simp only [intOf]; omega
        · go_wp2_with fail
          clear t0 t1 t2 g0 g1 g2
          go_loopw [4] (fun rem wr => ∃ R : Int, -9223372036854775808 ≤ R ∧ R ≤ 4503599627370496 ∧ rem = .int .i64 R ∧ TState w wr (62135596800000000 + m - R)) (fun rem _ => (4503599627370496 - intOf rem).toNat)
          case atStart => exact ⟨S, by omega, by omega, rfl, HS⟩
          case round =>
            obtain ⟨U, hU0, hU1, rfl, HU⟩ := hrel
            obtain ⟨t0, t1, t2, g0, g1, g2⟩ := HU.t
            by_cases hlt : U < -4503599627370496
            · go_wp2_with fail
              refine (add_micro (62135596800000000 + m - U) (-4503599627370496) _ (by omega) ⟨by omega, by omega⟩ ⟨by omega, by omega⟩ _).mono ?_
              rintro e w1 ⟨rfl, hb1⟩
              have HT1 := HU.step hb1
              clear t0 t1 t2 g0 g1 g2 HU hb1
              obtain ⟨t0, t1, t2, g0, g1, g2⟩ := HT1.t
              go_wp2
              go_roundw
              case rel =>
                go_light
                exact ⟨U + 4503599627370496, by omega, by omega, rfl, (HT1.set rfl rfl rfl).cast (by omega)⟩
              case measure =>
                go_light
                simp only [intOf]; omega
            · go_wp2_with fail
              refine (add_micro (62135596800000000 + m - U) U _ (by omega) ⟨by omega, by omega⟩ ⟨by omega, by omega⟩ _).mono ?_
              rintro e w1 ⟨rfl, hb1⟩
              have HT1 := HU.step hb1
              clear t0 t1 t2 g0 g1 g2 HU hb1
              obtain ⟨t0, t1, t2, g0, g1, g2⟩ := HT1.t
              obtain ⟨z0, z1, z2, y0, y1, y2⟩ := HT1.z
              go_wp2
              refine bodyPost_ret (v := .agg #[.int .u64 ((62135596800000000 + m) % 1000000 * 1000), .int .i64 ((62135596800000000 + m) / 1000000), .pointer none]) (by simp [results, Try.results9, go_sem, z0, z1, z2]) rfl ⟨rfl, ?_⟩
              exact (((((HT1.b.setCell (by simp) _).setCell (by simp) _).setCell (by simp) _).setCell (by simp) _).setCell (by simp) _).setCell (by simp) _
end Go.Proofs.Qxb6626884a
