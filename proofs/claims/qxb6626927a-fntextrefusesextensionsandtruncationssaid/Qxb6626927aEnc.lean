/-
  THE WALK over encText.
-/
import Derived.Test.Qxb6626927aBuf
namespace Go.Proofs.Qxb6626927a
open Go.RowKit

theorem zero_of_beq {c : UInt8} (h : (((c.toNat : Int)) == 0) = true) : c = 0 := by
  have : c.toNat = 0 := by simpa using h
  exact UInt8.toNat_inj.1 this
theorem ne_of_beq {c : UInt8} (h : (((c.toNat : Int)) == 0) = false) : c ≠ 0 := by
  intro e; subst e; simp at h
theorem beq_of_ne {c : UInt8} (h : c ≠ 0) : (((c.toNat : Int)) == 0) = false := by
  rw [beq_eq_false_iff_ne]
  intro e
  have e' : c.toNat = 0 := by omega
  exact h (UInt8.toNat_inj.1 e')

set_option maxHeartbeats 1000000 in
theorem enc_any (s : ByteArray) (hs : s.size ≤ 1048576) (w : World) :
    Calls Try.prog 7 #[.string s] w fun e w' => e = .returned (.string ⟨(Plain.enc s.data.toList).toArray⟩) ∧ Below w.heap.size w w' := by
  go_enter Try.func7, Try.ntmps7
  go_wp2_with (first
    | ((with_reducible refine wpList_mk (base := w.heap.size) (s.size * 2 + 3) (↑s.size * 2 + 3) ?_ ?_ ?_ ?_ ?_); rfl; omega; omega; exact Nat.le_refl _; intro w1 hb1 hw1)
    | ((with_reducible refine wpList_app 10 11 [4] w1.heap.size 1 _ hb1 ?_ ?_ ?_ ?_ ?_ ?_); rfl; rfl; rfl; rfl; (simp only [List.length_cons, List.length_nil]; omega); intro w2 hb2 hw2))
  have hB2 := hw1.trans hw2
  clear hw1 hw2 hb1
  go_loopw [3, 4] (fun b i wr => ∃ k : Nat, k ≤ s.size ∧ i = .int .i64 k ∧ b = .slice (some ⟨w.heap.size, 0, none⟩) (4 :: Plain.esc (s.data.toList.take k)).length (s.size * 2 + 3) ∧ Buf wr w.heap.size w.heap.size (s.size * 2 + 3) (4 :: Plain.esc (s.data.toList.take k)) ∧ Below w.heap.size w wr) (fun _ i _ => s.size - (intOf i).toNat)
  case atStart => exact ⟨0, Nat.zero_le _, rfl, rfl, hb2, hB2⟩
  case round =>
    obtain ⟨k, hk, rfl, rfl, hbk, hBk⟩ := hrel
    have hle := (Plain.esc_length (s.data.toList.take k)).2
    have hlk : (s.data.toList.take k).length ≤ k := List.length_take_le _ _
    by_cases hlt : k < s.size
    · have HS : Hid (s.data.toList.take (k + 1) = s.data.toList.take k ++ [s[k]]) := take_snoc s k hlt
      by_cases hz : (((s[k].toNat : Int)) == 0) = true
      · have HZ : Hid (Plain.esc (s.data.toList.take (k + 1)) = Plain.esc (s.data.toList.take k) ++ [0, 255]) := by
          show Plain.esc (s.data.toList.take (k + 1)) = _
          rw [HS.out, Plain.esc_snoc, if_pos (zero_of_beq hz)]
        go_wp2_with (first
          | ((with_reducible refine wpList_app 23 24 [0, 255] wr.heap.size 2 _ hbk ?_ ?_ ?_ ?_ ?_ ?_); rfl; rfl; rfl; rfl; (simp only [List.length_cons, List.length_nil]; omega); intro w3 hb3 hw3))
        go_roundw
        case rel =>
          go_light
          exact ⟨k + 1, by omega, by go_num, by rw [HZ.out]; simp, hb3.len (by rw [HZ.out]; rfl), hBk.trans hw3⟩
        case measure =>
          go_light
          simp only [intOf]; omega
      · have hz' : (((s[k].toNat : Int)) == 0) = false := by simpa using hz
        have HZ : Hid (Plain.esc (s.data.toList.take (k + 1)) = Plain.esc (s.data.toList.take k) ++ [s[k]]) := by
          show Plain.esc (s.data.toList.take (k + 1)) = _
          rw [HS.out, Plain.esc_snoc, if_neg (ne_of_beq hz')]
        clear hz
        go_wp2_with (first
          | ((with_reducible refine wpList_app 26 30 [s[k]] wr.heap.size 1 _ hbk ?_ ?_ ?_ ?_ ?_ ?_); rfl; rfl; rfl; rfl; (simp only [List.length_cons, List.length_nil]; omega); intro w3 hb3 hw3))
        go_roundw
        case rel =>
          go_light
          exact ⟨k + 1, by omega, by go_num, by rw [HZ.out]; simp, hb3.len (by rw [HZ.out]; rfl), hBk.trans hw3⟩
        case measure =>
          go_light
          simp only [intOf]; omega
    · have hks : k = s.size := by omega
      have HT : Hid (s.data.toList.take k = s.data.toList) := by
        show s.data.toList.take k = s.data.toList
        rw [List.take_of_length_le (by simp; omega)]
      clear hks
      go_wp2_with (first
        | ((with_reducible refine wpList_app 32 33 [0, 1] wr.heap.size 2 _ hbk ?_ ?_ ?_ ?_ ?_ ?_); rfl; rfl; rfl; rfl; (simp only [List.length_cons, List.length_nil]; omega); intro w3 hb3 hw3)
        | ((with_reducible refine wpList_str 35 hb3 ?_ ?_); simp [Act.eval]))
      go_ret
      refine ⟨?_, hBk.trans hw3⟩
      rw [HT.out]
      rfl
end Go.Proofs.Qxb6626927a
