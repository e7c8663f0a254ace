/-
  THE WALK over looseDecode.
-/
import Derived.Test.Qxb6626927aEnc
namespace Go.Proofs.Qxb6626927a
open Go.RowKit

theorem drop_cons (s : ByteArray) (k : Nat) (h : k < s.size) : s.data.toList.drop k = s[k] :: s.data.toList.drop (k + 1) := by
  rw [List.drop_eq_getElem_cons (by simpa using h)]; rfl

set_option maxHeartbeats 1000000 in
theorem loose_any (s : ByteArray) (hs : s.size ≤ 1048576) (w : World) :
    Calls Try.prog 6 #[.string s] w fun e w' => e = .returned (.string ⟨(Plain.loose s.data.toList).toArray⟩) ∧ Below w.heap.size w w' := by
  go_enter Try.func6, Try.ntmps6
  go_wp2_with (first
    | ((with_reducible refine wpList_mk (base := w.heap.size) s.size (↑s.size) ?_ ?_ ?_ ?_ ?_); rfl; rfl; omega; exact Nat.le_refl _; intro w1 hb1 hw1))
  go_loopw [3, 4] (fun b i wr => ∃ k : Nat, ∃ out : List UInt8, k ≤ s.size + 1 ∧ out.length ≤ k ∧ out.length ≤ s.size ∧ i = .int .i64 k ∧ b = .slice (some ⟨w.heap.size, 0, none⟩) out.length s.size ∧ Buf wr w.heap.size w.heap.size s.size out ∧ Below w.heap.size w wr ∧ Hid (Plain.loose s.data.toList = out ++ Plain.loose (s.data.toList.drop k))) (fun _ i _ => s.size + 1 - (intOf i).toNat)
  case atStart => exact ⟨0, [], Nat.zero_le _, Nat.zero_le _, Nat.zero_le _, rfl, rfl, hb1, hw1, rfl⟩
  case round =>
    obtain ⟨k, out, hk, ho1, ho2, rfl, rfl, hbk, hBk, HL⟩ := hrel
    by_cases hlt : k < s.size
    · have HD : Hid (s.data.toList.drop k = s[k] :: s.data.toList.drop (k + 1)) := drop_cons s k hlt
      by_cases hz : (((s[k].toNat : Int)) == 0) = true
      · have HN : Hid (Plain.loose s.data.toList = (out ++ [s[k]]) ++ Plain.loose (s.data.toList.drop (k + 2))) := by
          show Plain.loose s.data.toList = _
          rw [HL.out, HD.out, Plain.loose_cons, if_pos (zero_of_beq hz), List.drop_drop]
          simp
        clear HD HL
        go_wp2_with (first
          | ((with_reducible refine wpList_app 14 18 [s[k]] wr.heap.size 1 _ hbk ?_ ?_ ?_ ?_ ?_ ?_); rfl; rfl; rfl; rfl; (simp only [List.length_cons, List.length_nil]; omega); intro w3 hb3 hw3))
        go_roundw
        case rel =>
          go_light
          exact ⟨k + 2, out ++ [s[k]], by omega, by simp; omega, by simp; omega, by go_num, by simp, hb3, hBk.trans hw3, HN⟩
        case measure =>
          go_light
          simp only [intOf]; omega
      · have hz' : (((s[k].toNat : Int)) == 0) = false := by simpa using hz
        have HN : Hid (Plain.loose s.data.toList = (out ++ [s[k]]) ++ Plain.loose (s.data.toList.drop (k + 1))) := by
          show Plain.loose s.data.toList = _
          rw [HL.out, HD.out, Plain.loose_cons, if_neg (ne_of_beq hz')]
          simp
        clear HD HL hz
        go_wp2_with (first
          | ((with_reducible refine wpList_app 14 18 [s[k]] wr.heap.size 1 _ hbk ?_ ?_ ?_ ?_ ?_ ?_); rfl; rfl; rfl; rfl; (simp only [List.length_cons, List.length_nil]; omega); intro w3 hb3 hw3))
        go_roundw
        case rel =>
          go_light
          exact ⟨k + 1, out ++ [s[k]], by omega, by simp; omega, by simp; omega, by go_num, by simp, hb3, hBk.trans hw3, HN⟩
        case measure =>
          go_light
          simp only [intOf]; omega
    · have HT : Hid (Plain.loose s.data.toList = out) := by
        show Plain.loose s.data.toList = out
        rw [HL.out, List.drop_eq_nil_of_le (by simp; omega)]
        simp [Plain.loose]
      clear HL
      go_wp2_with (first
        | ((with_reducible refine wpList_str 26 hbk ?_ ?_); rfl))
      go_ret
      refine ⟨?_, hBk⟩
      rw [HT.out]
      rfl
end Go.Proofs.Qxb6626927a
