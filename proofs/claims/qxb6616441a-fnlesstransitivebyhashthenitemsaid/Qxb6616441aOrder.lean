/-
  THE PLAIN LAW OF THE ORDER BY HASH, THEN BY ITEM: no Go in sight.
-/
namespace Go.Proofs.Qxb6616441a

/-- Item a comes before item b: by the hash, then by the item. -/
def lessB (h : Nat → Int) (a b : Nat) : Bool := decide (h a < h b) || (decide (h a = h b) && decide (a < b))
theorem lessB_iff (h : Nat → Int) (a b : Nat) : lessB h a b = true ↔ (h a < h b ∨ (h a = h b ∧ a < b)) := by simp [lessB]

/-- How many of the first n items come before item a. -/
def rank (h : Nat → Int) (a : Nat) : Nat → Nat
  | 0 => 0
  | k + 1 => rank h a k + if lessB h k a then 1 else 0

theorem rank_le (h : Nat → Int) (a : Nat) : ∀ k, rank h a k ≤ k
  | 0 => Nat.le_refl _
  | k + 1 => by
    have := rank_le h a k
    unfold rank
    split <;> omega

theorem less_trans {h : Nat → Int} {a b c : Nat} (h1 : lessB h a b = true) (h2 : lessB h b c = true) : lessB h a c = true := by
  rw [lessB_iff] at *
  omega

theorem less_irrefl (h : Nat → Int) (a : Nat) : lessB h a a = false := by
  cases e : lessB h a a with
  | false => rfl
  | true => rw [lessB_iff] at e; omega

theorem less_total {h : Nat → Int} {a b : Nat} (hne : a ≠ b) : lessB h a b = true ∨ lessB h b a = true := by
  rw [lessB_iff, lessB_iff]
  omega

theorem rank_mono {h : Nat → Int} {a b : Nat} (hab : lessB h a b = true) : ∀ k, rank h a k ≤ rank h b k ∧ (a < k → rank h a k < rank h b k)
  | 0 => ⟨Nat.le_refl _, fun h => absurd h (Nat.not_lt_zero _)⟩
  | k + 1 => by
    obtain ⟨i1, i2⟩ := rank_mono hab k
    unfold rank
    by_cases e : k = a
    · subst e
      rw [hab, less_irrefl]
      simp
      omega
    · by_cases hk : lessB h k a = true
      · rw [hk, less_trans hk hab]
        simp
        exact ⟨by omega, fun _ => i2 (by omega)⟩
      · rw [if_neg hk]
        refine ⟨by split <;> omega, fun hlt => ?_⟩
        have := i2 (by omega)
        split <;> omega

/-- Item a comes before item b just where fewer items come before a. -/
theorem less_rank {h : Nat → Int} {a b n : Nat} (ha : a < n) (hb : b < n) : lessB h a b = decide (rank h a n < rank h b n) := by
  cases e : lessB h a b with
  | true => exact (decide_eq_true ((rank_mono e n).2 ha)).symm
  | false =>
    refine (decide_eq_false ?_).symm
    by_cases hne : a = b
    · subst hne; omega
    · rcases less_total (h := h) hne with h1 | h1
      · rw [e] at h1; cases h1
      · have := (rank_mono h1 n).2 hb; omega
end Go.Proofs.Qxb6616441a
