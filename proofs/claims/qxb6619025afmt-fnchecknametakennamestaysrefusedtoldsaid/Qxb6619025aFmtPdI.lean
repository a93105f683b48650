import Derived.Test.Qxb6619025aFmtPdH
namespace Go.Proofs.Qxb6619025aFmt
open Go.RowKit Go.Extern.Stop Go.Stop Go.Extern
set_option linter.unusedVariables false
attribute [local go_sem ↓] Go.wp_at_zero Go.wp_at_succ

/-! ### The plain law -/
theorem has_iff (f : Nat → ByteArray) (x : ByteArray) : ∀ n, has f x n = true ↔ ∃ k, k < n ∧ (f k).toList = x.toList
  | 0 => by simp [has]
  | n + 1 => by
    have ih := has_iff f x n
    constructor
    · intro h
      simp only [has, Bool.or_eq_true] at h
      rcases h with h | h
      · obtain ⟨k, hk, e⟩ := ih.1 h
        exact ⟨k, by omega, e⟩
      · exact ⟨n, by omega, eq_of_beq h⟩
    · rintro ⟨k, hk, e⟩
      exact has_hit hk (by rw [e]; simp)
theorem nth_append_lt (xs : List ByteArray) (y : ByteArray) (k : Nat) (h : k < xs.length) : nth (xs ++ [y]) k = nth xs k := by
  simp [nth, List.getElem?_append_left h]
theorem nth_append_last (xs : List ByteArray) (y : ByteArray) : nth (xs ++ [y]) xs.length = y := by
  simp [nth]
/-- A string is among the first occurrences just where it is among the strings. -/
theorem fo_has (f : Nat → ByteArray) (x : ByteArray) : ∀ j, (∃ k, k < (fo f j).length ∧ (nth (fo f j) k).toList = x.toList) ↔ ∃ k, k < j ∧ (f k).toList = x.toList
  | 0 => by simp [fo]
  | j + 1 => by
    have ih := fo_has f x j
    by_cases h : has f (f j) j = true
    · rw [fo_same h, ih]
      obtain ⟨k0, hk0, e0⟩ := (has_iff _ _ _).1 h
      constructor
      · rintro ⟨k, hk, e⟩
        exact ⟨k, by omega, e⟩
      · rintro ⟨k, hk, e⟩
        by_cases hkj : k = j
        · subst hkj
          exact ⟨k0, hk0, e0.trans e⟩
        · exact ⟨k, by omega, e⟩
    · rw [fo_new (by simpa using h)]
      constructor
      · rintro ⟨k, hk, e⟩
        simp at hk
        by_cases hkl : k < (fo f j).length
        · rw [nth_append_lt _ _ _ hkl] at e
          obtain ⟨k2, h2, e2⟩ := ih.1 ⟨k, hkl, e⟩
          exact ⟨k2, by omega, e2⟩
        · have hk2 : k = (fo f j).length := by omega
          subst hk2
          rw [nth_append_last] at e
          exact ⟨j, by omega, e⟩
      · rintro ⟨k, hk, e⟩
        by_cases hkj : k = j
        · subst hkj
          exact ⟨(fo f k).length, by simp, by rw [nth_append_last]; exact e⟩
        · obtain ⟨k2, h2, e2⟩ := ih.2 ⟨k, by omega, e⟩
          exact ⟨k2, by simp; omega, by rw [nth_append_lt _ _ _ h2]; exact e2⟩
theorem fo_has' (f : Nat → ByteArray) (x : ByteArray) (j : Nat) : has (nth (fo f j)) x (fo f j).length = has f x j := by
  rw [Bool.eq_iff_iff, has_iff, has_iff]
  exact fo_has f x j
end Go.Proofs.Qxb6619025aFmt
