/-
  THE PLAIN MATHEMATICS of the unit letters: how many bytes of letters and micro signs a list of bytes begins with. No Go, no program.
-/
namespace Go.Proofs.Qxb6620853a.Plain

/-- An ASCII letter. -/
def isLetter (c : Int) : Bool := (decide (97 ≤ c) && decide (c ≤ 122)) || (decide (65 ≤ c) && decide (c ≤ 90))
def letterB (c : UInt8) : Bool := isLetter (c.toNat : Int)

/-- How many bytes of letters and micro signs the list begins with. -/
def ul : List UInt8 → Nat
  | [] => 0
  | [c] => if letterB c = true then 1 else 0
  | c :: d :: t => if letterB c = true then 1 + ul (d :: t) else if c = 194 ∧ d = 181 then 2 + ul t else 0

/-- Does the list begin with a micro sign? -/
def micro (l : List UInt8) : Bool := l.take 2 == [194, 181]

theorem ul_letter (c : UInt8) (t : List UInt8) (h : letterB c = true) : ul (c :: t) = 1 + ul t := by
  cases t with
  | nil => simp [ul, h]
  | cons d t => simp [ul, h]
theorem ul_micro (t : List UInt8) : ul (194 :: 181 :: t) = 2 + ul t := by
  have h : letterB 194 = false := by decide
  simp [ul, h]
theorem ul_other (c : UInt8) (t : List UInt8) (h : letterB c = false) (hm : micro (c :: t) = false) : ul (c :: t) = 0 := by
  cases t with
  | nil => simp [ul, h]
  | cons d t =>
    have : ¬ (c = 194 ∧ d = 181) := by
      rintro ⟨rfl, rfl⟩; simp [micro] at hm
    simp [ul, h, this]
theorem micro_form {l : List UInt8} (h : micro l = true) : ∃ t, l = 194 :: 181 :: t := by
  match l with
  | [] => simp [micro] at h
  | [c] => simp [micro] at h
  | c :: d :: t =>
    simp [micro] at h
    obtain ⟨rfl, rfl⟩ := h
    exact ⟨t, rfl⟩
theorem ul_micro' {l : List UInt8} (h : micro l = true) : ul l = 2 + ul (l.drop 2) := by
  obtain ⟨t, rfl⟩ := micro_form h
  rw [ul_micro]; rfl
theorem letter_micro {c : UInt8} {t : List UInt8} (h : micro (c :: t) = true) : letterB c = false := by
  obtain ⟨t', e⟩ := micro_form h
  obtain ⟨rfl, _⟩ := List.cons.inj e
  decide
theorem ul_le : ∀ l : List UInt8, ul l ≤ l.length
  | [] => Nat.le_refl _
  | [c] => by simp only [ul]; split <;> simp
  | c :: d :: t => by
    have h1 := ul_le (d :: t)
    have h2 := ul_le t
    simp only [ul]
    simp only [List.length_cons] at *
    split
    · omega
    · split <;> omega

/-- A concatenation of letters and micro signs. -/
def tok (t : List UInt8) : Prop := (∃ c, letterB c = true ∧ t = [c]) ∨ t = [194, 181]
def Word (l : List UInt8) : Prop := ∃ ts : List (List UInt8), l = ts.flatten ∧ ∀ t ∈ ts, tok t

theorem word_nil : Word [] := ⟨[], rfl, by simp⟩
theorem word_cons {t l : List UInt8} (ht : tok t) (h : Word l) : Word (t ++ l) := by
  obtain ⟨ts, rfl, hts⟩ := h
  refine ⟨t :: ts, by simp, ?_⟩
  intro x hx
  rcases List.mem_cons.1 hx with rfl | hx
  · exact ht
  · exact hts x hx
theorem word_last {l : List UInt8} (h : Word l) (hl : l ≠ []) : (∃ c i, l = i ++ [c] ∧ letterB c = true ∧ Word i) ∨ ∃ i, l = i ++ [194, 181] ∧ Word i := by
  obtain ⟨ts, rfl, hts⟩ := h
  rcases List.eq_nil_or_concat ts with rfl | ⟨init, last, rfl⟩
  · exact absurd rfl hl
  · have hw : Word init.flatten := ⟨init, rfl, fun t ht => hts t (by simp [ht])⟩
    rcases hts last (by simp) with ⟨c, hc, rfl⟩ | rfl
    · exact Or.inl ⟨c, init.flatten, by simp, hc, hw⟩
    · exact Or.inr ⟨init.flatten, by simp, hw⟩

/-- What is counted is a word. -/
theorem word_take : ∀ l : List UInt8, Word (l.take (ul l))
  | [] => word_nil
  | [c] => by
    cases h : letterB c
    · simp [ul, h]; exact word_nil
    · simp [ul, h]; exact word_cons (t := [c]) (Or.inl ⟨c, h, rfl⟩) word_nil
  | c :: d :: t => by
    have h1 := word_take (d :: t)
    have h2 := word_take t
    cases h : letterB c
    · by_cases hm : c = 194 ∧ d = 181
      · obtain ⟨rfl, rfl⟩ := hm
        rw [ul_micro, Nat.add_comm]
        exact word_cons (t := [194, 181]) (Or.inr rfl) h2
      · have : ul (c :: d :: t) = 0 := by simp [ul, h, hm]
        rw [this]; exact word_nil
    · rw [ul_letter c (d :: t) h, Nat.add_comm]
      exact word_cons (t := [c]) (Or.inl ⟨c, h, rfl⟩) h1
/-- Behind what is counted nothing more is. -/
theorem ul_drop : ∀ l : List UInt8, ul (l.drop (ul l)) = 0
  | [] => rfl
  | [c] => by
    cases h : letterB c
    · simp [ul, h]
    · simp [ul, h]
  | c :: d :: t => by
    have h1 := ul_drop (d :: t)
    have h2 := ul_drop t
    cases h : letterB c
    · by_cases hm : c = 194 ∧ d = 181
      · obtain ⟨rfl, rfl⟩ := hm
        rw [ul_micro, Nat.add_comm]
        exact h2
      · have : ul (c :: d :: t) = 0 := by simp [ul, h, hm]
        rw [this]; exact this
    · rw [ul_letter c (d :: t) h, Nat.add_comm]
      exact h1
theorem ul_zero_letter {c : UInt8} {t : List UInt8} (h : ul (c :: t) = 0) : letterB c = false := by
  cases hc : letterB c
  · rfl
  · rw [ul_letter c t hc] at h; omega
theorem ul_zero_micro {l : List UInt8} (h : ul l = 0) : micro l = false := by
  cases hm : micro l
  · rfl
  · rw [ul_micro' hm] at h; omega

end Go.Proofs.Qxb6620853a.Plain
