import Derived.Test.Qxb6630227aCalls
namespace Go.Proofs.Qxb6630227a.Own

theorem firstOut_le (l : List UInt8) : firstOut l ≤ l.length := List.findIdx_le_length
theorem firstOut_len (l : List UInt8) : firstOut l = l.length ↔ l.all okc = true := by
  unfold firstOut
  rw [List.findIdx_eq_length, List.all_eq_true]
  simp
theorem firstOut_append (l : List UInt8) : firstOut (l ++ suf) = firstOut l := by
  unfold firstOut
  rw [List.findIdx_append]
  have h0 : suf.findIdx (fun c => !okc c) = 0 := by decide +kernel
  have h1 : l.findIdx (fun c => !okc c) ≤ l.length := List.findIdx_le_length
  split <;> omega
theorem base_append (l : List UInt8) : base (l ++ suf) = l := by
  unfold base Lib.trimSuffix Lib.hasSuffix
  rw [if_pos (by rw [List.isSuffixOf_iff_suffix]; exact List.suffix_append _ _)]
  simp
theorem base_not (l : List UInt8) (h : ¬ suf <:+ l) : base l = l := by
  unfold base Lib.trimSuffix Lib.hasSuffix
  rw [if_neg (by rw [List.isSuffixOf_iff_suffix]; exact h)]

/-- THE FIRST LAW, plain. -/
theorem model (l : List UInt8) : valid l = (decide (l.length ≤ 64) && decide (1 ≤ firstOut l) && (decide (firstOut l = l.length) || (l.drop (firstOut l) == suf))) := by
  by_cases hs : suf <:+ l
  · obtain ⟨t, rfl⟩ := hs
    have h10 : suf.length = 10 := rfl
    have hle := firstOut_le t
    have hlen := firstOut_len t
    unfold valid
    rw [base_append, firstOut_append, Bool.eq_iff_iff]
    simp only [Bool.and_eq_true, Bool.or_eq_true, decide_eq_true_eq, beq_iff_eq, Bool.not_eq_true', List.isEmpty_eq_false_iff, List.length_append, h10, ← hlen]
    constructor
    · rintro ⟨⟨h1, h2⟩, h3⟩
      have : t.length ≠ 0 := fun e => h2 (List.eq_nil_of_length_eq_zero e)
      refine ⟨⟨h1, by omega⟩, Or.inr ?_⟩
      rw [h3, List.drop_left]
    · rintro ⟨⟨h1, h2⟩, h3 | h3⟩
      · omega
      · have e := congrArg List.length h3
        simp only [List.length_drop, List.length_append, h10] at e
        refine ⟨⟨h1, ?_⟩, by omega⟩
        intro e2
        have e3 := congrArg List.length e2
        simp only [List.length_nil] at e3
        omega
  · have hle := firstOut_le l
    have hlen := firstOut_len l
    unfold valid
    rw [base_not l hs, Bool.eq_iff_iff]
    simp only [Bool.and_eq_true, Bool.or_eq_true, decide_eq_true_eq, beq_iff_eq, Bool.not_eq_true', List.isEmpty_eq_false_iff, ← hlen]
    constructor
    · rintro ⟨⟨h1, h2⟩, h3⟩
      have : l.length ≠ 0 := fun e => h2 (List.eq_nil_of_length_eq_zero e)
      exact ⟨⟨h1, by omega⟩, Or.inl h3⟩
    · rintro ⟨⟨h1, h2⟩, h3 | h3⟩
      · refine ⟨⟨h1, ?_⟩, h3⟩
        intro e2
        have e3 := congrArg List.length e2
        simp only [List.length_nil] at e3
        omega
      · exact absurd (h3 ▸ List.drop_suffix _ _) hs

theorem hash_of_all (l : List UInt8) (h : l.all okc = true) : hash l = false := by
  unfold hash
  rw [List.any_eq_false]
  rw [List.all_eq_true] at h
  intro x hx e
  have e2 : x = 35 := by simpa using e
  have := h x hx
  rw [e2] at this
  exact absurd this (by decide +kernel)
theorem hash_of_suf (l : List UInt8) (h : hash l = false) : ¬ suf <:+ l := by
  intro hs
  unfold hash at h
  rw [List.any_eq_false] at h
  exact h 35 (hs.subset (by decide)) (by simp)

/-- THE SECOND LAW, plain: its two equations. -/
theorem twin1 (l : List UInt8) : valid (l ++ suf) = (decide (1 ≤ l.length) && decide (l.length ≤ 54) && decide (firstOut l = l.length)) := by
  have h10 : suf.length = 10 := rfl
  have hlen := firstOut_len l
  unfold valid
  rw [base_append, Bool.eq_iff_iff]
  simp only [Bool.and_eq_true, decide_eq_true_eq, Bool.not_eq_true', List.isEmpty_eq_false_iff, List.length_append, h10, ← hlen]
  constructor
  · rintro ⟨⟨h1, h2⟩, h3⟩
    have : l.length ≠ 0 := fun e => h2 (List.eq_nil_of_length_eq_zero e)
    exact ⟨⟨by omega, by omega⟩, h3⟩
  · rintro ⟨⟨h1, h2⟩, h3⟩
    exact ⟨⟨by omega, fun e => by rw [e] at h1; simp at h1⟩, h3⟩
theorem twin2 (l : List UInt8) : valid (l ++ suf) = (valid l && decide (l.length ≤ 54) && !hash l) := by
  rw [twin1, Bool.eq_iff_iff]
  have hlen := firstOut_len l
  simp only [Bool.and_eq_true, decide_eq_true_eq, Bool.not_eq_true', hlen]
  constructor
  · rintro ⟨⟨h1, h2⟩, h3⟩
    have hh := hash_of_all l h3
    refine ⟨⟨?_, h2⟩, hh⟩
    unfold valid
    rw [base_not l (hash_of_suf l hh), h3, decide_eq_true (by omega)]
    cases l
    · simp at h1
    · rfl
  · rintro ⟨⟨h1, h2⟩, h3⟩
    unfold valid at h1
    rw [base_not l (hash_of_suf l h3)] at h1
    simp only [Bool.and_eq_true, decide_eq_true_eq, Bool.not_eq_true', List.isEmpty_eq_false_iff] at h1
    have : l.length ≠ 0 := fun e => h1.1.2 (List.eq_nil_of_length_eq_zero e)
    exact ⟨⟨by omega, h2⟩, h1.2⟩
end Go.Proofs.Qxb6630227a.Own
