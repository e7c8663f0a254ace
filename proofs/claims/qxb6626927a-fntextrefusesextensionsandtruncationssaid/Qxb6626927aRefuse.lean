/-
  THE WALK over FnTextRefusesExtensionsAndTruncations.
-/
import Derived.Test.Qxb6626927aText
namespace Go.Proofs.Qxb6626927a
open Go.RowKit

theorem refuse_big (t s : ByteArray) (n : Int) (h : 1048576 < t.size + s.size) (w : World) : Calls Try.prog 4 #[.string t, .string s, .int .i64 n] w fun e w' => e = .returned (.bool true) ∧ Below w.heap.size w w' := by
  by_cases h1 : 1048576 < t.size
  · clear h
    go_enter Try.func4, Try.ntmps4
    go_wp2
    go_ret
    exact ⟨rfl, Below.refl _ _⟩
  by_cases h2 : 1048576 < s.size
  · clear h
    go_enter Try.func4, Try.ntmps4
    go_wp2
    go_ret
    exact ⟨rfl, Below.refl _ _⟩
  go_enter Try.func4, Try.ntmps4
  go_wp2
  go_ret
  exact ⟨rfl, Below.refl _ _⟩

theorem zz9 (t s : ByteArray) (n : Int) (hs : t.size + s.size ≤ 1048576) (w : World) : Calls Try.prog 9 #[.string t, .string s, .int .i64 n] w fun e w' => e = .returned (.bool true) ∧ w' = w := by
  go_enter Try.func9, Try.ntmps9
  go_wp2
  go_ret
  exact ⟨rfl, rfl⟩

set_option maxHeartbeats 1000000 in
theorem refuse_small (t s : ByteArray) (n : Int) (h : t.size + s.size ≤ 1048576) (w : World) : Calls Try.prog 4 #[.string t, .string s, .int .i64 n] w fun e w' => e = .returned (.bool true) ∧ Below w.heap.size w w' := by
  have hel : (Plain.enc t.data.toList).length ≤ 2 * t.size + 3 := by
    have := (Plain.esc_length t.data.toList).2
    simp [Plain.enc] at this ⊢; omega
  have HT : Hid (Plain.textOf (Plain.enc t.data.toList) = (t.data.toList, true)) := Plain.textOf_enc _
  have HM : Hid (s.data.toList ≠ [] → Plain.textOf (Plain.enc t.data.toList ++ s.data.toList) = ([], false)) := Plain.refuse_more _ _
  have HL : Hid (∀ m, m < (Plain.enc t.data.toList).length → Plain.textOf ((Plain.enc t.data.toList).take m) = ([], false)) := Plain.refuse_less _
  go_enter Try.func4, Try.ntmps4
  go_wp2_with fail
  refine (zz9 t s n h _).mono ?_
  rintro e w1 ⟨rfl, rfl⟩
  go_wp2_with fail
  refine (enc_any t (by omega) _).mono ?_
  rintro e w2 ⟨rfl, hB2⟩
  obtain ⟨E, hE⟩ : ∃ E, Plain.enc t.data.toList = E := ⟨_, rfl⟩
  rw [hE] at hel HT HM HL ⊢
  obtain ⟨K, hK⟩ : ∃ K, ByteArray.mk E.toArray = K := ⟨_, rfl⟩
  rw [hK]
  have hKd : K.data.toList = E := by rw [← hK]
  have hks : K.size = E.length := by rw [← hK]; rfl
  clear hE hK
  go_wp2_with fail
  refine (text_any K (by omega) _).mono ?_
  rintro e w3 ⟨rfl, hB3⟩
  rw [hKd, HT.out]
  simp only [tres]
  have ht : (ByteArray.mk t.data.toList.toArray) = t := rfl
  rw [ht]
  clear ht HT
  have HL' : Hid (∀ m, m < K.size → Plain.textOf (K.extract 0 m).data.toList = ([], false)) := by
    show ∀ m, m < K.size → Plain.textOf (K.extract 0 m).data.toList = ([], false)
    intro m hm
    rw [Lib.extract_data, hKd, List.drop_zero, Nat.sub_zero]
    exact HL.out m (by omega)
  have hK9 : K.size ≤ 4000000 := by omega
  have hB3' : Below w1.heap.size w1 w3 := hB2.trans (hB3.mono hB2.size)
  clear HL
  have HL := HL'
  clear HL'
  by_cases hs0 : 0 < s.size
  · have hsl : s.data.toList ≠ [] := fun e => by
      have : s.size = 0 := by rw [← ByteArray.size_data, ← Array.length_toList, e]; rfl
      omega
    have HM' : Hid (Plain.textOf (K ++ s).data.toList = ([], false)) := by
      show _ = _
      rw [← HM.out hsl, ← hKd]; simp
    have hkss : (K ++ s).size ≤ 10000000 := by simp; omega
    clear HM hsl hKd hks hel hB2 hB3
    go_wp2_with fail
    refine (text_any (K ++ s) hkss _).mono ?_
    rintro e w4 ⟨rfl, hB4⟩
    rw [HM'.out]
    simp only [tres]
    have hB4' : Below w1.heap.size w1 w4 := hB3'.trans (hB4.mono hB3'.size)
    clear HM'
    rcases Int.lt_or_le n 0 with hn | hn
    · clear HL
      go_wp2
      go_ret
      exact ⟨rfl, hB4'⟩
    rcases Int.lt_or_le n K.size with hm | hm
    · obtain ⟨m, rfl⟩ := Int.eq_ofNat_of_zero_le hn
      have hmk : m < K.size := by omega
      have HN : Hid (Plain.textOf (K.extract 0 m).data.toList = ([], false)) := HL.out m hmk
      have hxs : (K.extract 0 m).size ≤ 10000000 := by simp; omega
      clear HL hn hm
      go_wp2_with fail
      refine (text_any (K.extract 0 m) hxs _).mono ?_
      rintro e w5 ⟨rfl, hB5⟩
      rw [HN.out]
      simp only [tres]
      go_wp2
      go_ret
      exact ⟨rfl, hB4'.trans (hB5.mono hB4'.size)⟩
    · clear HL
      go_wp2
      go_ret
      exact ⟨rfl, hB4'⟩
  · have hs0' : s.size = 0 := by omega
    clear HM hs0 hKd hks hel hB2 hB3
    rcases Int.lt_or_le n 0 with hn | hn
    · clear HL
      go_wp2
      go_ret
      exact ⟨rfl, hB3'⟩
    rcases Int.lt_or_le n K.size with hm | hm
    · obtain ⟨m, rfl⟩ := Int.eq_ofNat_of_zero_le hn
      have hmk : m < K.size := by omega
      have HN : Hid (Plain.textOf (K.extract 0 m).data.toList = ([], false)) := HL.out m hmk
      have hxs : (K.extract 0 m).size ≤ 10000000 := by simp; omega
      clear HL hn hm
      go_wp2_with fail
      refine (text_any (K.extract 0 m) hxs _).mono ?_
      rintro e w5 ⟨rfl, hB5⟩
      rw [HN.out]
      simp only [tres]
      go_wp2
      go_ret
      exact ⟨rfl, hB3'.trans (hB5.mono hB3'.size)⟩
    · clear HL
      go_wp2
      go_ret
      exact ⟨rfl, hB3'⟩

theorem refuse_any (t s : ByteArray) (n : Int) (_hn : (Lit.int .i64 n).wf = true) (w : World) : Calls Try.prog 4 #[.string t, .string s, .int .i64 n] w fun e w' => e = .returned (.bool true) ∧ Below w.heap.size w w' := by
  by_cases h : 1048576 < t.size + s.size
  · exact refuse_big t s n h w
  · exact refuse_small t s n (by omega) w
end Go.Proofs.Qxb6626927a
