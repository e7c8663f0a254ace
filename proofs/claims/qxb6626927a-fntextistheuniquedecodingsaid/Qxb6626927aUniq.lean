/-
  THE WALK over FnTextIsTheUniqueDecoding.
-/
import Derived.Test.Qxb6626927aText
namespace Go.Proofs.Qxb6626927a
open Go.RowKit

theorem loose_le : ∀ (n : Nat) (l : List UInt8), l.length ≤ n → (Plain.loose l).length ≤ l.length
  | 0, l, h => by
    cases l with
    | nil => simp [Plain.loose]
    | cons c r => simp at h
  | n + 1, l, h => by
    cases l with
    | nil => simp [Plain.loose]
    | cons c r =>
      rw [Plain.loose_cons]
      have h' : r.length ≤ n := by simpa using h
      split
      · have := loose_le n (r.drop 1) (by simp; omega)
        simp at this ⊢; omega
      · have := loose_le n r h'
        simp; omega

theorem uniq_big (s : ByteArray) (hs : 1048576 < s.size) (w : World) : Calls Try.prog 3 #[.string s] w fun e w' => e = .returned (.bool true) ∧ Below w.heap.size w w' := by
  go_enter Try.func3, Try.ntmps3
  go_wp2
  go_ret
  exact ⟨rfl, Below.refl _ _⟩

theorem zz5 (s : ByteArray) (hs : s.size ≤ 1048576) (w : World) : Calls Try.prog 5 #[.string s] w fun e w' => e = .returned (.bool true) ∧ w' = w := by
  go_enter Try.func5, Try.ntmps5
  go_wp2
  go_ret
  exact ⟨rfl, rfl⟩

theorem uniq_short (s : ByteArray) (hs : s.size < 3) (w : World) : Calls Try.prog 3 #[.string s] w fun e w' => e = .returned (.bool true) ∧ Below w.heap.size w w' := by
  have HT : Hid (Plain.textOf s.data.toList = ([], false)) := by
    show _ = _
    rw [Plain.unique_law, if_neg]
    rintro ⟨h, _⟩
    simp at h; omega
  go_enter Try.func3, Try.ntmps3
  go_wp2_with fail
  refine (zz5 s (by omega) _).mono ?_
  rintro e w1 ⟨rfl, rfl⟩
  go_wp2_with fail
  refine (text_any s (by omega) _).mono ?_
  rintro e w2 ⟨rfl, hB⟩
  rw [HT.out]
  simp only [tres]
  go_wp2
  go_ret
  exact ⟨rfl, hB⟩

set_option maxHeartbeats 1000000 in
theorem uniq_long (s : ByteArray) (h3 : 3 ≤ s.size) (hs : s.size ≤ 1048576) (w : World) : Calls Try.prog 3 #[.string s] w fun e w' => e = .returned (.bool true) ∧ Below w.heap.size w w' := by
  have HU : Hid (Plain.textOf s.data.toList = if 3 ≤ s.data.toList.length ∧ Plain.enc (Plain.cand s.data.toList) = s.data.toList then (Plain.cand s.data.toList, true) else ([], false)) := Plain.unique_law _
  have hxs : (s.extract 1 (s.size - 2)).size ≤ 1048576 := by simp; omega
  have HC : Hid (Plain.loose (s.extract 1 (s.size - 2)).data.toList = Plain.cand s.data.toList) := by
    show _ = _
    rw [Lib.extract_data, Plain.cand]
    congr 2
  have hcl : (Plain.cand s.data.toList).length ≤ 1048576 := by
    have := loose_le _ (s.extract 1 (s.size - 2)).data.toList (Nat.le_refl _)
    rw [HC.out] at this
    simp at this; omega
  go_enter Try.func3, Try.ntmps3
  go_wp2_with fail
  refine (zz5 s (by omega) _).mono ?_
  rintro e w1 ⟨rfl, rfl⟩
  go_wp2_with fail
  refine (loose_any _ hxs _).mono ?_
  rintro e w2 ⟨rfl, hB2⟩
  rw [HC.out]
  have hcs : (ByteArray.mk (Plain.cand s.data.toList).toArray).size ≤ 1048576 := by simpa [ByteArray.size] using hcl
  have hdt : (ByteArray.mk (Plain.cand s.data.toList).toArray).data.toList = Plain.cand s.data.toList := rfl
  clear hcl HC hxs
  by_cases he : Plain.enc (Plain.cand s.data.toList) = s.data.toList
  · have HT : Hid (Plain.textOf s.data.toList = (Plain.cand s.data.toList, true)) := by
      show _ = _
      rw [HU.out, if_pos ⟨by simpa using h3, he⟩]
    have HE : Hid (ByteArray.mk (Plain.enc (Plain.cand s.data.toList)).toArray = s) := by
      show _ = _
      rw [he]
    clear HU he
    generalize hC : Plain.cand s.data.toList = C at *
    generalize hCB : ByteArray.mk C.toArray = CB at *
    go_wp2_with fail
    refine (enc_any CB hcs _).mono ?_
    rintro e w3 ⟨rfl, hB3⟩
    rw [hdt, HE.out]
    clear HE hC
    go_wp2_with fail
    refine (text_any s (by omega) _).mono ?_
    rintro e w4 ⟨rfl, hB4⟩
    rw [HT.out]
    simp only [tres]
    rw [hCB]
    go_wp2
    go_ret
    exact ⟨rfl, hB2.trans ((hB3.trans (hB4.mono hB3.size)).mono hB2.size)⟩
  · have HT : Hid (Plain.textOf s.data.toList = ([], false)) := by
      show _ = _
      rw [HU.out, if_neg (fun h => he h.2)]
    have hE : ¬ (ByteArray.mk (Plain.enc (Plain.cand s.data.toList)).toArray).toList = s.toList := by
      rw [ByteArray.toList_eq, ByteArray.toList_eq]
      exact he
    clear HU he
    generalize hC : Plain.cand s.data.toList = C at *
    generalize hCB : ByteArray.mk C.toArray = CB at *
    generalize hEB : ByteArray.mk (Plain.enc C).toArray = EB at *
    go_wp2_with fail
    refine (enc_any CB hcs _).mono ?_
    rintro e w3 ⟨rfl, hB3⟩
    rw [hdt, hEB]
    have hE' : (EB.toList == s.toList) = false := by simpa using hE
    clear hC hEB
    go_wp2_with fail
    refine (text_any s (by omega) _).mono ?_
    rintro e w4 ⟨rfl, hB4⟩
    rw [HT.out]
    simp only [tres]
    go_wp2
    go_ret
    exact ⟨rfl, hB2.trans ((hB3.trans (hB4.mono hB3.size)).mono hB2.size)⟩

theorem uniq_any (s : ByteArray) (w : World) : Calls Try.prog 3 #[.string s] w fun e w' => e = .returned (.bool true) ∧ Below w.heap.size w w' := by
  by_cases h : 1048576 < s.size
  · exact uniq_big s h w
  · by_cases h3 : s.size < 3
    · exact uniq_short s h3 w
    · exact uniq_long s (by omega) (by omega) w
end Go.Proofs.Qxb6626927a
