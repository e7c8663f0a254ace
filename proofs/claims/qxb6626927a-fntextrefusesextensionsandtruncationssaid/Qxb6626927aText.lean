/-
  THE WALKS over Text, the zzBytes functions and the two laws.
-/
import Derived.Test.Qxb6626927aUn
namespace Go.Proofs.Qxb6626927a
open Go.RowKit

theorem text_nil (w : World) : Calls Try.prog 8 #[.string ⟨#[]⟩] w fun e w' => e = .returned (.tuple #[.string ⟨#[]⟩, .bool false]) ∧ Below w.heap.size w w' := by
  go_enter Try.func8, Try.ntmps8
  go_wp2
  go_ret2
  exact ⟨rfl, Below.refl _ _⟩

theorem toList_ne (s : ByteArray) (h0 : 0 < s.size) : ¬ s.toList = [] := by
  intro h
  rw [ByteArray.toList_eq] at h
  have : s.size = 0 := by rw [← ByteArray.size_data, ← Array.length_toList, h]; rfl
  omega

def tres (r : List UInt8 × Bool) : Value := .tuple #[.string ⟨r.1.toArray⟩, .bool r.2]

theorem text_cons (s : ByteArray) (h0 : 0 < s.size) (hs : s.size ≤ 10000000) (w : World) : Calls Try.prog 8 #[.string s] w fun e w' => e = .returned (tres (Plain.textOf s.data.toList)) ∧ Below w.heap.size w w' := by
  have hse : ¬ s.toList = [] := toList_ne s h0
  have hie : s.toList.isEmpty = false := by simpa using hse
  have HD : Hid (s.data.toList = s[0] :: s.data.toList.drop 1) := by have := drop_cons s 0 h0; rw [List.drop_zero] at this; exact this
  by_cases h4 : (((s[0].toNat : Int)) != 4) = true
  · have HX : Hid (Plain.textOf s.data.toList = ([], false)) := by
      show Plain.textOf s.data.toList = ([], false)
      have h4' : (((s[0].toNat : Int)) == (4 : Nat)) = false := by simpa using h4
      rw [HD.out]
      simp only [Plain.textOf]
      exact if_neg (ne_of_beqn (n := 4) (by omega) h4')
    clear HD
    go_enter Try.func8, Try.ntmps8
    go_wp2
    go_ret2
    refine ⟨?_, Below.refl _ _⟩
    rw [HX.out]
    rfl
  · have h4' : (((s[0].toNat : Int)) != 4) = false := by simpa using h4
    have h4e : s[0] = 4 := eq_of_beq (n := 4) (by omega) (by simpa using h4)
    have HX : Hid (Plain.textOf s.data.toList = match Plain.un [] (s.extract 1 s.size).data.toList with
      | some (t, []) => (t, true)
      | _ => ([], false)) := by
      show Plain.textOf s.data.toList = _
      rw [Lib.extract_data, take_rest, HD.out, h4e]
      simp only [Plain.textOf, if_pos, List.drop_succ_cons, List.drop_zero]
      rfl
    have hxs : (s.extract 1 s.size).size ≤ 10000000 := by simp; omega
    clear HD h4 h4e
    go_enter Try.func8, Try.ntmps8
    go_wp2_with fail
    refine (un_any _ hxs _).mono ?_
    rintro e w1 ⟨rfl, hB⟩
    cases hu : Plain.un [] (s.extract 1 s.size).data.toList with
    | none =>
      have HY : Hid (Plain.textOf s.data.toList = ([], false)) := by
        show Plain.textOf s.data.toList = _
        rw [HX.out, hu]
      clear HX hu
      simp only [unRes]
      go_wp2
      go_ret2
      refine ⟨?_, hB⟩
      rw [HY.out]
      rfl
    | some tr =>
      obtain ⟨t, r⟩ := tr
      cases r with
      | nil =>
        have HY : Hid (Plain.textOf s.data.toList = (t, true)) := by
          show Plain.textOf s.data.toList = _
          rw [HX.out, hu]
        clear HX hu
        simp only [unRes]
        go_wp2
        go_ret2
        refine ⟨?_, hB⟩
        rw [HY.out]
        rfl
      | cons c r =>
        have HY : Hid (Plain.textOf s.data.toList = ([], false)) := by
          show Plain.textOf s.data.toList = _
          rw [HX.out, hu]
        have hre : ¬ (ByteArray.mk (c :: r).toArray).toList = [] := toList_ne _ (by simp [ByteArray.size])
        have hri : (ByteArray.mk (c :: r).toArray).toList.isEmpty = false := List.isEmpty_eq_false_iff.2 hre
        clear HX hu
        simp only [unRes]
        generalize ByteArray.mk (c :: r).toArray = R at *
        go_wp2
        go_ret2
        refine ⟨?_, hB⟩
        rw [HY.out]
        rfl

theorem text_any (s : ByteArray) (hs : s.size ≤ 10000000) (w : World) : Calls Try.prog 8 #[.string s] w fun e w' => e = .returned (tres (Plain.textOf s.data.toList)) ∧ Below w.heap.size w w' := by
  by_cases h0 : 0 < s.size
  · exact text_cons s h0 hs w
  · obtain ⟨⟨l⟩⟩ := s
    cases l with
    | nil => exact text_nil w
    | cons c r => exact absurd (by simp [ByteArray.size]) h0
end Go.Proofs.Qxb6626927a
