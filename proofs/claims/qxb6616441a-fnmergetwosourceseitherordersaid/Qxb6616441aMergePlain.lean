/-
  THE PLAIN LAW OF THE MERGES: words as functions of the index; no Go in sight.
-/
namespace Go.Proofs.Qxb6616441a

/-- The words behind k rounds of a merge of the region at s into the region at m, word by word, in place. -/
def mergeN (f : Nat → Nat) (m s : Nat) : Nat → Nat → Nat
  | 0 => f
  | k + 1 => fun i => if i = m + k then mergeN f m s k (m + k) ||| mergeN f m s k (s + k) else mergeN f m s k i

/-- The words that a merge must give: the first k words of the region at m, each joined with its word of the region at s, read from f itself. -/
def joinN (f : Nat → Nat) (m s k : Nat) (i : Nat) : Nat := if m ≤ i ∧ i < m + k then f i ||| f (s + (i - m)) else f i

/-- The regions of W words at m and at s are the same or apart. -/
def Apart (m s W : Nat) : Prop := m = s ∨ m + W ≤ s ∨ s + W ≤ m

theorem joinN_in {f : Nat → Nat} {m s k i : Nat} (h : m ≤ i ∧ i < m + k) : joinN f m s k i = f i ||| f (s + (i - m)) := if_pos h
theorem joinN_out {f : Nat → Nat} {m s k i : Nat} (h : ¬ (m ≤ i ∧ i < m + k)) : joinN f m s k i = f i := if_neg h

theorem mergeN_eq {f : Nat → Nat} {m s W : Nat} (h : Apart m s W) : ∀ k, k ≤ W → ∀ i, mergeN f m s k i = joinN f m s k i
  | 0, _, i => (joinN_out (by omega)).symm
  | k + 1, hk, i => by
    have ih := mergeN_eq (f := f) h k (by omega)
    show (if i = m + k then mergeN f m s k (m + k) ||| mergeN f m s k (s + k) else mergeN f m s k i) = _
    by_cases e : i = m + k
    · subst e
      have e1 : joinN f m s k (m + k) = f (m + k) := joinN_out (by omega)
      have e2 : joinN f m s k (s + k) = f (s + k) := joinN_out (by unfold Apart at h; omega)
      have e3 : joinN f m s (k + 1) (m + k) = f (m + k) ||| f (s + (m + k - m)) := joinN_in (by omega)
      rw [if_pos rfl, ih, ih, e1, e2, e3, show m + k - m = k by omega]
    · rw [if_neg e, ih]
      by_cases hi : m ≤ i ∧ i < m + k
      · rw [joinN_in hi, joinN_in (by omega)]
      · rw [joinN_out hi, joinN_out (by omega)]

/-- Two merges behind one another, cut at a word, are one. -/
theorem mergeN_split (f : Nat → Nat) (m s c : Nat) : ∀ d i, mergeN (mergeN f m s c) (m + c) (s + c) d i = mergeN f m s (c + d) i
  | 0, _ => rfl
  | d + 1, i => by
    have ih := mergeN_split f m s c d
    show (if i = m + c + d then mergeN (mergeN f m s c) (m + c) (s + c) d (m + c + d) ||| mergeN (mergeN f m s c) (m + c) (s + c) d (s + c + d) else mergeN (mergeN f m s c) (m + c) (s + c) d i) =
      (if i = m + (c + d) then mergeN f m s (c + d) (m + (c + d)) ||| mergeN f m s (c + d) (s + (c + d)) else mergeN f m s (c + d) i)
    rw [ih, ih, ih, Nat.add_assoc, Nat.add_assoc]

theorem joinN_step {f : Nat → Nat} {m s k : Nat} (i : Nat) : joinN f m s (k + 1) i = if i = m + k then f (m + k) ||| f (s + k) else joinN f m s k i := by
  by_cases e : i = m + k
  · subst e
    rw [if_pos rfl, joinN_in (by omega), show m + k - m = k by omega]
  · rw [if_neg e]
    by_cases hi : m ≤ i ∧ i < m + k
    · rw [joinN_in hi, joinN_in (by omega)]
    · rw [joinN_out hi, joinN_out (by omega)]

theorem or_lt {a b : Nat} (ha : a < 18446744073709551616) (hb : b < 18446744073709551616) : a ||| b < 18446744073709551616 :=
  Nat.or_lt_two_pow (n := 64) ha hb

theorem mergeN_lt {f : Nat → Nat} {m s : Nat} (hf : ∀ i, f i < 18446744073709551616) : ∀ k i, mergeN f m s k i < 18446744073709551616
  | 0, i => hf i
  | k + 1, i => by
    have ih := mergeN_lt (m := m) (s := s) hf k
    show (if i = m + k then mergeN f m s k (m + k) ||| mergeN f m s k (s + k) else mergeN f m s k i) < _
    split
    · exact or_lt (ih _) (ih _)
    · exact ih i

/-- A merge where a flag is set changes no word. -/
def stepN (all : Bool) (f : Nat → Nat) (m s W : Nat) : Nat → Nat := if all then f else mergeN f m s W
theorem stepN_true {f : Nat → Nat} {m s W : Nat} : stepN true f m s W = f := rfl
theorem stepN_false {f : Nat → Nat} {m s W : Nat} : stepN false f m s W = mergeN f m s W := rfl
theorem stepN_lt {all : Bool} {f : Nat → Nat} {m s W : Nat} (hf : ∀ i, f i < 18446744073709551616) (i : Nat) : stepN all f m s W i < 18446744073709551616 := by
  cases all
  · exact mergeN_lt hf W i
  · exact hf i

/-- What two merges into m must give at word k of the region: first the words at a (flag set: none), then those at b. -/
def wantAt (f : Nat → Nat) (m a b : Nat) (one two : Bool) (k : Nat) : Nat :=
  let v := if one then f (m + k) else f (m + k) ||| f (a + k)
  if two then v else v ||| f (b + k)

/-- The words that two merges must give, the first k of the region. -/
def wantN (f : Nat → Nat) (m a b : Nat) (one two : Bool) (k : Nat) (i : Nat) : Nat := if m ≤ i ∧ i < m + k then wantAt f m a b one two (i - m) else f i

theorem wantN_step {f : Nat → Nat} {m a b k : Nat} {one two : Bool} (i : Nat) : wantN f m a b one two (k + 1) i = if i = m + k then wantAt f m a b one two k else wantN f m a b one two k i := by
  unfold wantN
  by_cases e : i = m + k
  · subst e
    rw [if_pos rfl, if_pos (by omega), show m + k - m = k by omega]
  · rw [if_neg e]
    by_cases hi : m ≤ i ∧ i < m + k
    · rw [if_pos hi, if_pos (by omega)]
    · rw [if_neg hi, if_neg (by omega)]

theorem wantN_zero (f : Nat → Nat) (m a b : Nat) (one two : Bool) (i : Nat) : wantN f m a b one two 0 i = f i := if_neg (by omega)

theorem or_abs (x y : Nat) : (x ||| y) ||| x = x ||| y := by rw [Nat.or_comm (x ||| y) x, ← Nat.or_assoc, Nat.or_self]
theorem or_abs' (x y : Nat) : (x ||| y) ||| y = x ||| y := by rw [Nat.or_assoc, Nat.or_self]

/-- Two merges give what they must. -/
theorem two_merges {f : Nat → Nat} {m a b W : Nat} {one two : Bool} (ha : Apart m a W) (hb : Apart m b W) (i : Nat) :
    stepN two (stepN one f m a W) m b W i = wantN f m a b one two W i := by
  have h1 : ∀ j, stepN one f m a W j = if m ≤ j ∧ j < m + W then (if one then f j else f j ||| f (a + (j - m))) else f j := by
    intro j
    cases one
    · rw [stepN_false, mergeN_eq ha W (Nat.le_refl _)]
      by_cases hj : m ≤ j ∧ j < m + W
      · rw [joinN_in hj, if_pos hj]; rfl
      · rw [joinN_out hj, if_neg hj]
    · rw [stepN_true]; split <;> rfl
  unfold wantN wantAt
  cases two
  · rw [stepN_false, mergeN_eq hb W (Nat.le_refl _)]
    by_cases hi : m ≤ i ∧ i < m + W
    · rw [joinN_in hi, if_pos hi, h1, h1, if_pos hi, show m + (i - m) = i by omega]
      rcases hb with rfl | hb | hb
      · rw [show m + (i - m) = i by omega, if_pos hi]
        cases one
        · simp only [Bool.false_eq_true, if_false]
          rw [Nat.or_self, or_abs]
        · simp only [Bool.false_eq_true, if_false, if_true]
      · rw [if_neg (by omega : ¬ (m ≤ b + (i - m) ∧ b + (i - m) < m + W))]; rfl
      · rw [if_neg (by omega : ¬ (m ≤ b + (i - m) ∧ b + (i - m) < m + W))]; rfl
    · rw [joinN_out hi, if_neg hi, h1, if_neg hi]
  · rw [stepN_true, h1]
    by_cases hi : m ≤ i ∧ i < m + W
    · rw [if_pos hi, if_pos hi, show m + (i - m) = i by omega]; rfl
    · rw [if_neg hi, if_neg hi]

/-- Merging the first source once more changes nothing. -/
theorem once_more {f : Nat → Nat} {m a b W : Nat} {one two : Bool} (h : two = false → one = false) (ha : Apart m a W) (hb : Apart m b W) (i : Nat) :
    stepN two (stepN two (stepN one f m a W) m b W) m a W i = stepN two (stepN one f m a W) m b W i := by
  cases two
  · obtain rfl : one = false := h rfl
    have h2 := fun j => two_merges (f := f) (one := false) (two := false) ha hb j
    rw [stepN_false, mergeN_eq ha W (Nat.le_refl _)]
    by_cases hi : m ≤ i ∧ i < m + W
    · rw [joinN_in hi, h2, h2]
      unfold wantN
      rw [if_pos hi]
      rcases ha with rfl | ha | ha
      · rw [show m + (i - m) = i by omega, if_pos hi, Nat.or_self]
      · rw [if_neg (by omega : ¬ (m ≤ a + (i - m) ∧ a + (i - m) < m + W))]
        simp only [wantAt, Bool.false_eq_true, if_false]
        rw [Nat.or_assoc, Nat.or_comm (f (b + (i - m))), ← Nat.or_assoc, or_abs']
      · rw [if_neg (by omega : ¬ (m ≤ a + (i - m) ∧ a + (i - m) < m + W))]
        simp only [wantAt, Bool.false_eq_true, if_false]
        rw [Nat.or_assoc, Nat.or_comm (f (b + (i - m))), ← Nat.or_assoc, or_abs']
    · rw [joinN_out hi]
  · rfl
end Go.Proofs.Qxb6616441a
