import Derived.Test.Qxb6616249aTrim
namespace Go.Proofs.Qxb6616249a

theorem isAt_cons_succ (c : UInt8) (l : List UInt8) (i : Nat) : isAt (c :: l) (i + 1) = isAt l i := by
  unfold isAt; simp
theorem isAt_append_left (l r : List UInt8) (i : Nat) (h : i < l.length) : isAt (l ++ r) i = isAt l i := by
  unfold isAt; simp [List.getElem?_append_left h]
theorem isAt_append_right (l r : List UInt8) (i : Nat) (h : l.length ≤ i) : isAt (l ++ r) i = isAt r (i - l.length) := by
  unfold isAt; simp [List.getElem?_append_right h]

/-- The middle of l, from k up to m. -/
def mid (l : List UInt8) (k m : Nat) : List UInt8 := (l.drop k).take (m - k)
theorem mid_length (l : List UInt8) (k m : Nat) (h : m ≤ l.length) : (mid l k m).length = m - k := by
  unfold mid; simp; omega
theorem isAt_mid (l : List UInt8) (k m i : Nat) (h : k + i < m) : isAt (mid l k m) i = isAt l (k + i) := by
  unfold isAt mid
  have h' : i < m - k := by omega
  simp [h']

/-- A trimmed text: empty, or neither its first nor its last byte is a blank. -/
def Ends (t : List UInt8) : Prop := t.length = 0 ∨ (isAt t 0 = false ∧ isAt t (t.length - 1) = false)

theorem trimmed_ends {l : List UInt8} {k m : Nat} (h : Trimmed l k m) : Ends (mid l k m) := by
  unfold Ends
  have hl := mid_length l k m h.le'
  by_cases e : m = k
  · left; omega
  · right
    have hle := h.le
    have hle' := h.le'
    have hk : isAt l k = false := h.stop.resolve_left (by omega)
    have hm : isAt l (m - 1) = false := h.stop'.resolve_left e
    refine ⟨?_, ?_⟩
    · rw [isAt_mid _ _ _ _ (by omega)]; exact hk
    · rw [isAt_mid _ _ _ _ (by omega), hl, show k + (m - k - 1) = m - 1 by omega]; exact hm

theorem tt {b : Bool} (h : b = true) (h' : b = false) : False := by rw [h] at h'; cases h'

/-- c blank: trimming c t c gives t back. -/
theorem wrap_blank {t : List UInt8} {c : UInt8} {k m : Nat} (hc : blB (c.toNat : Int) = true)
    (ht : Ends t) (h : Trimmed ([c] ++ t ++ [c]) k m) :
    mid ([c] ++ t ++ [c]) k m = t := by
  have hlen : ([c] ++ t ++ [c]).length = t.length + 2 := by simp
  obtain ⟨le, le', front, back, stop, stop'⟩ := h
  rw [hlen] at le' back stop
  have a0 : isAt ([c] ++ t ++ [c]) 0 = true := hc
  have a1 : ∀ i, i < t.length → isAt ([c] ++ t ++ [c]) (i + 1) = isAt t i := fun i hi => by
    rw [isAt_append_left _ _ _ (by simp; omega)]; exact isAt_cons_succ _ _ _
  have a2 : isAt ([c] ++ t ++ [c]) (t.length + 1) = true := by
    rw [isAt_append_right _ _ _ (by simp)]; simp; exact hc
  by_cases hz : t.length = 0
  · have hk : k = 2 := by
      rcases stop with h | h
      · omega
      · rcases Nat.lt_or_ge k 2 with hlt | hge
        · have : k = 0 ∨ k = t.length + 1 := by omega
          rcases this with rfl | rfl
          · exact (tt a0 h).elim
          · exact (tt a2 h).elim
        · omega
    have hm : m = 2 := by omega
    obtain rfl := List.length_eq_zero_iff.mp hz
    subst hk hm
    rfl
  · obtain ⟨h0, h1⟩ := ht.resolve_left hz
    have b0 : isAt ([c] ++ t ++ [c]) 1 = false := by rw [a1 0 (by omega)]; exact h0
    have b1 : isAt ([c] ++ t ++ [c]) t.length = false := by
      have := a1 (t.length - 1) (by omega)
      rw [show t.length - 1 + 1 = t.length by omega] at this
      rw [this]; exact h1
    have hk1 : k ≤ 1 := by
      rcases Nat.lt_or_ge 1 k with hlt | hge
      · exact (tt (front 1 hlt) b0).elim
      · exact hge
    have hk : k = 1 := by
      rcases stop with h | h
      · omega
      · have : k ≠ 0 := by rintro rfl; exact tt a0 h
        omega
    have hm : m = t.length + 1 := by
      have m1 : t.length < m := by
        rcases Nat.lt_or_ge t.length m with hlt | hge
        · exact hlt
        · exact (tt (back t.length hge (by omega)) b1).elim
      have m2 : m ≠ t.length + 2 := by
        intro e
        rcases stop' with h | h
        · omega
        · rw [e] at h; exact tt a2 h
      omega
    subst hk hm
    unfold mid
    simp

/-- c not blank: c t c stays as it is. -/
theorem wrap_other {t : List UInt8} {c : UInt8} {k m : Nat} (hc : blB (c.toNat : Int) = false)
    (h : Trimmed ([c] ++ t ++ [c]) k m) : mid ([c] ++ t ++ [c]) k m = [c] ++ t ++ [c] := by
  have hlen : ([c] ++ t ++ [c]).length = t.length + 2 := by simp
  obtain ⟨le, le', front, back, stop, stop'⟩ := h
  rw [hlen] at le' back stop
  have a0 : isAt ([c] ++ t ++ [c]) 0 = false := hc
  have a2 : isAt ([c] ++ t ++ [c]) (t.length + 1) = false := by
    rw [isAt_append_right _ _ _ (by simp)]; simp; exact hc
  have hk : k = 0 := by
    rcases Nat.eq_zero_or_pos k with e | e
    · exact e
    · exact (tt (front 0 e) a0).elim
  have hm : m = t.length + 2 := by
    rcases Nat.lt_or_ge (t.length + 1) m with hlt | hge
    · omega
    · exact (tt (back (t.length + 1) hge (by omega)) a2).elim
  subst hk
  unfold mid
  rw [List.drop_zero, List.take_of_length_le (by rw [hlen]; omega)]
end Go.Proofs.Qxb6616249a
