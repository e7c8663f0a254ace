/-
  THE PLAIN LAW of the keys of texts: no Go in sight.
-/
namespace Go.Proofs.Qxb6626927a.Plain

/-- A text's bytes, each 0 as 0, 255. -/
def esc : List UInt8 → List UInt8
  | [] => []
  | c :: r => if c = 0 then 0 :: 255 :: esc r else c :: esc r
/-- The key of a text alone. -/
def enc (t : List UInt8) : List UInt8 := 4 :: (esc t ++ [0, 1])
/-- A 0 is read, and whatever follows it is left out. -/
def loose : List UInt8 → List UInt8
  | [] => []
  | [c] => [c]
  | c :: d :: r => if c = 0 then c :: loose r else c :: loose (d :: r)
/-- One text value from the front; 'acc' is what is read already. -/
def un (acc : List UInt8) : List UInt8 → Option (List UInt8 × List UInt8)
  | [] => none
  | [c] => if c = 0 then none else un (acc ++ [c]) []
  | c :: d :: r => if c = 0 then (if d = 1 then some (acc, r) else if d = 255 then un (acc ++ [0]) r else none) else un (acc ++ [c]) (d :: r)
/-- What Text answers. -/
def textOf (k : List UInt8) : List UInt8 × Bool :=
  match k with
  | [] => ([], false)
  | c :: r => if c = 4 then (match un [] r with
      | some (t, []) => (t, true)
      | _ => ([], false)) else ([], false)

theorem esc_snoc (l : List UInt8) (c : UInt8) : esc (l ++ [c]) = esc l ++ (if c = 0 then [0, 255] else [c]) := by
  induction l with
  | nil => by_cases h : c = 0 <;> simp [esc, h]
  | cons d r ih => by_cases h : d = 0 <;> simp [esc, h, ih]
theorem esc_length (l : List UInt8) : l.length ≤ (esc l).length ∧ (esc l).length ≤ 2 * l.length := by
  induction l with
  | nil => simp [esc]
  | cons d r ih => by_cases h : d = 0 <;> simp [esc, h] <;> omega

theorem un_ne (acc : List UInt8) (c : UInt8) (r : List UInt8) (h : c ≠ 0) : un acc (c :: r) = un (acc ++ [c]) r := by
  cases r with
  | nil => simp [un, h]
  | cons d r => simp [un, h]

theorem un_esc (t : List UInt8) : ∀ (acc s : List UInt8), un acc (esc t ++ 0 :: 1 :: s) = some (acc ++ t, s) := by
  induction t with
  | nil => intro acc s; simp [esc, un]
  | cons c r ih =>
    intro acc s
    by_cases h : c = 0
    · subst h
      simp [esc, un, ih]
    · simp only [esc, h, if_false, List.cons_append]
      rw [un_ne _ _ _ h, ih]
      simp

theorem un_inv : ∀ (n : Nat) (l acc t s : List UInt8), l.length ≤ n → un acc l = some (t, s) → ∃ u, t = acc ++ u ∧ l = esc u ++ 0 :: 1 :: s := by
  intro n
  induction n with
  | zero =>
    intro l acc t s hl h
    have : l = [] := List.length_eq_zero_iff.1 (by omega)
    subst this
    simp [un] at h
  | succ n ih =>
    intro l acc t s hl h
    match l, hl, h with
    | [], _, h => simp [un] at h
    | [c], _, h =>
      by_cases hc : c = 0
      · simp [un, hc] at h
      · simp [un, hc] at h
    | c :: d :: r, hl, h =>
      simp only [List.length_cons] at hl
      by_cases hc : c = 0
      · subst hc
        by_cases h1 : d = 1
        · subst h1
          simp [un] at h
          exact ⟨[], by simp [h.1], by simp [esc, h.2]⟩
        · by_cases h2 : d = 255
          · subst h2
            simp [un] at h
            obtain ⟨u, hu, hr⟩ := ih r _ t s (by omega) h
            exact ⟨0 :: u, by rw [hu]; simp, by rw [hr]; simp [esc]⟩
          · simp [un, h1, h2] at h
      · rw [un_ne _ _ _ hc] at h
        obtain ⟨u, hu, hr⟩ := ih (d :: r) _ t s (by simp only [List.length_cons]; omega) h
        exact ⟨c :: u, by rw [hu]; simp, by rw [hr]; simp [esc, hc]⟩

theorem textOf_enc (t : List UInt8) : textOf (enc t) = (t, true) := by
  have := un_esc t [] []
  simp only [List.nil_append] at this
  simp [textOf, enc, this]

theorem textOf_true {k t : List UInt8} (h : textOf k = (t, true)) : k = enc t := by
  unfold textOf at h
  split at h
  · simp at h
  · rename_i c r
    split at h
    · rename_i hc
      subst hc
      split at h
      · rename_i u hu
        simp only [Prod.mk.injEq, and_true] at h
        subst h
        obtain ⟨v, hv, hr⟩ := un_inv _ r [] _ [] (Nat.le_refl _) hu
        simp only [List.nil_append] at hv
        subst hv
        rw [hr]; rfl
      · simp at h
    · simp at h

theorem textOf_false {k : List UInt8} (h : (textOf k).2 = false) : textOf k = ([], false) := by
  unfold textOf at h ⊢
  split at h
  · rfl
  · rename_i c r
    split at h
    · rename_i hc
      rw [if_pos hc]
      split at h
      · simp at h
      · rfl
    · rename_i hc
      rw [if_neg hc]

theorem loose_cons (c : UInt8) (r : List UInt8) : loose (c :: r) = if c = 0 then c :: loose (r.drop 1) else c :: loose r := by
  cases r with
  | nil => by_cases h : c = 0 <;> simp [loose, h]
  | cons d q => by_cases h : c = 0 <;> simp [loose, h]

theorem loose_esc (t : List UInt8) : loose (esc t) = t := by
  induction t with
  | nil => rfl
  | cons c r ih =>
    by_cases h : c = 0
    · subst h
      simp [esc, loose, ih]
    · simp only [esc, h, if_false]
      cases hr : esc r with
      | nil =>
        rw [hr] at ih
        simp only [loose] at ih
        rw [← ih]; rfl
      | cons d q =>
        rw [hr] at ih
        simp only [loose, h, if_false]
        rw [ih]

theorem enc_length (t : List UInt8) : 3 ≤ (enc t).length := by simp [enc]
theorem enc_mid (t : List UInt8) : ((enc t).drop 1).take ((enc t).length - 3) = esc t := by simp [enc]

/-- The candidate: what looseDecode makes of the key's middle. -/
def cand (k : List UInt8) : List UInt8 := loose ((k.drop 1).take (k.length - 3))

/-- Text answers as the law wants it. -/
theorem unique_law (k : List UInt8) : textOf k = if 3 ≤ k.length ∧ enc (cand k) = k then (cand k, true) else ([], false) := by
  cases h : textOf k with
  | mk t b =>
    cases b with
    | true =>
      have e := textOf_true h
      have hc : cand k = t := by rw [e, cand, enc_mid, loose_esc]
      rw [hc, if_pos ⟨by rw [e]; exact enc_length t, e.symm⟩]
    | false =>
      have hf := textOf_false (k := k) (by rw [h])
      rw [if_neg ?_, ← h, hf]
      intro ⟨_, he⟩
      have := textOf_enc (cand k)
      rw [he, h] at this
      simp at this

/-- A key with something behind it is refused. -/
theorem refuse_more (t s : List UInt8) (hs : s ≠ []) : textOf (enc t ++ s) = ([], false) := by
  have := un_esc t [] s
  cases s with
  | nil => exact absurd rfl hs
  | cons c r => simp only [List.nil_append] at this; simp [textOf, enc, this]

/-- A key cut short is refused. -/
theorem refuse_less (t : List UInt8) (n : Nat) (hn : n < (enc t).length) : textOf ((enc t).take n) = ([], false) := by
  cases h : textOf ((enc t).take n) with
  | mk u b =>
    cases b with
    | false => rw [← h]; exact textOf_false (by rw [h])
    | true =>
      have e := textOf_true h
      have hd : enc t = enc u ++ (enc t).drop n := by rw [← e, List.take_append_drop]
      have hne : (enc t).drop n ≠ [] := by
        intro h0
        have : ((enc t).drop n).length = 0 := by rw [h0]; rfl
        rw [List.length_drop] at this
        omega
      have := refuse_more u _ hne
      rw [← hd, textOf_enc] at this
      simp at this
end Go.Proofs.Qxb6626927a.Plain
