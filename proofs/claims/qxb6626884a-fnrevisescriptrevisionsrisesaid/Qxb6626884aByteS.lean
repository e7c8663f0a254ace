/-
  THE WALK over zzBytes_FnReviseScriptRevisionsRise: it returns.
-/
import Derived.Test.Qxb6626884aBytes
import Derived.Deep.Light
namespace Go.Proofs.Qxb6626884a
open Go.RowKit

/-- The strings of the record d lie at block b, from offset o on. -/
structure StrsAt (w : World) (b o : Nat) (d : PD) : Prop where
  c3 : w.cell? ⟨b, o + 3, none⟩ = some (.string d.s3)
  c4 : w.cell? ⟨b, o + 4, none⟩ = some (.string d.s4)
  c5 : w.cell? ⟨b, o + 5, none⟩ = some (.string d.s5)
  c7 : w.cell? ⟨b, o + 7, none⟩ = some (.string d.s7)
  c8 : w.cell? ⟨b, o + 8, none⟩ = some (.string d.s8)
  c9 : w.cell? ⟨b, o + 9, none⟩ = some (.string d.s9)
  c10 : w.cell? ⟨b, o + 10, none⟩ = some (.string d.s10)
  c11 : w.cell? ⟨b, o + 11, none⟩ = some (.string d.s11)
  c12 : w.cell? ⟨b, o + 12, none⟩ = some (.string d.s12)
  c14 : w.cell? ⟨b, o + 14, none⟩ = some (.string d.s14)
  c15 : w.cell? ⟨b, o + 15, none⟩ = some (.string d.s15)
  c16 : w.cell? ⟨b, o + 16, none⟩ = some (.string d.s16)

set_option maxRecDepth 100000 in
set_option maxHeartbeats 4000000 in
theorem bytesS_some (p : PD) (F : Nat → PD) (b off len cap : Nat) (hlen : len ≤ 9223372036854775807) (w : World) (hb : b < w.heap.size)
    (hF : ∀ i, i < len → StrsAt w b (off + i * 19) (F i)) :
    Calls Try.prog 10 #[p.v, .slice (some ⟨b, off, none⟩) len cap] w fun e w' => (∃ r, e = .returned (.bool r)) ∧ Below w.heap.size w w' := by
  have B : Hid (Below w.heap.size w (w.alloc (.cells #[.int .i64 p.st, .int .i64 p.re, .bool p.seen, .string p.s3, .string p.s4, .string p.s5, .int .i64 p.since, .string p.s7, .string p.s8, .string p.s9, .string p.s10, .string p.s11, .string p.s12, .int .i64 p.tf, .string p.s14, .string p.s15, .string p.s16, .int .i64 p.rev] 23))) := (Below.refl _ _).alloc (Nat.le_refl _) _
  have HF : Hid (∀ i, i < len → StrsAt w b (off + i * 19) (F i)) := hF
  clear hF
  go_enter Try.func10, Try.ntmps10
  go_wp2
  all_goals try (go_ret; exact ⟨⟨_, rfl⟩, B.out⟩)
  go_loop [5, 6] (fun z i => ∃ k : Nat, ∃ n : Int, k ≤ len ∧ i = .int .i64 k ∧ z = .int .i64 n ∧ 0 ≤ n ∧ n ≤ 1048576) (fun _ i => len - (intOf i).toNat)
  case atStart =>
    go_light
    exact ⟨0, _, Nat.zero_le _, rfl, rfl, by omega, by omega⟩
  case round =>
    obtain ⟨k, n, hk, rfl, rfl, hn0, hn1⟩ := hrel
    by_cases hlt : k < len
    · obtain ⟨q3, q4, q5, q7, q8, q9, q10, q11, q12, q14, q15, q16⟩ := HF.out k hlt
      go_wp2
      all_goals first
        | (go_ret; first | exact ⟨Or.inl rfl, B.out⟩ | exact ⟨⟨_, rfl⟩, B.out⟩)
        | (go_round
           case rel =>
             go_light
             exact ⟨k + 1, _, by omega, by go_num, rfl, by omega, by omega⟩
           case measure =>
             go_light
             simp only [intOf]; omega)
    · go_wp2
      go_ret
      first | exact ⟨Or.inr rfl, B.out⟩ | exact ⟨⟨_, rfl⟩, B.out⟩

set_option maxRecDepth 100000 in
set_option maxHeartbeats 4000000 in
/-- A slice of no elements: nothing is known of its address. -/
theorem bytesS_none (p : PD) (ad : Option Addr) (cap : Nat) (w : World) :
    Calls Try.prog 10 #[p.v, .slice ad 0 cap] w fun e w' => (∃ r, e = .returned (.bool r)) ∧ Below w.heap.size w w' := by
  have B : Hid (Below w.heap.size w (w.alloc (.cells #[.int .i64 p.st, .int .i64 p.re, .bool p.seen, .string p.s3, .string p.s4, .string p.s5, .int .i64 p.since, .string p.s7, .string p.s8, .string p.s9, .string p.s10, .string p.s11, .string p.s12, .int .i64 p.tf, .string p.s14, .string p.s15, .string p.s16, .int .i64 p.rev] 23))) := (Below.refl _ _).alloc (Nat.le_refl _) _
  go_enter Try.func10, Try.ntmps10
  go_wp2
  all_goals try (go_ret; exact ⟨⟨_, rfl⟩, B.out⟩)
  refine wp_loop_rounds 1 ?_
  rw [rounds_succ]
  go_wp2
  go_ret
  first | exact ⟨Or.inr rfl, B.out⟩ | exact ⟨⟨_, rfl⟩, B.out⟩
end Go.Proofs.Qxb6626884a
