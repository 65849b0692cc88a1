import Derived.Test.Qxb6616249aLeaf
namespace Go.Proofs.Qxb6616249a
open Go.RowKit

/-- Is the i-th byte a blank? -/
def isAt (l : List UInt8) (i : Nat) : Bool := blB ((l.getD i 0).toNat : Int)
theorem isAt_eq (s : ByteArray) (i : Nat) (h : i < s.size) : isAt s.data.toList i = blB (s[i].toNat : Int) := by
  unfold isAt
  have h' : i < s.data.toList.length := by simpa using h
  rw [List.getD_eq_getElem?_getD, List.getElem?_eq_getElem h']
  rfl

/-- What 'trimBlanks' hands back of l: the bytes from k up to m. -/
structure Trimmed (l : List UInt8) (k m : Nat) : Prop where
  le : k ≤ m
  le' : m ≤ l.length
  front : ∀ i, i < k → isAt l i = true
  back : ∀ i, m ≤ i → i < l.length → isAt l i = true
  stop : k = l.length ∨ isAt l k = false
  stop' : m = k ∨ isAt l (m - 1) = false

theorem ret_empty (s : ByteArray) : Ending.returned (.string ByteArray.empty) = .returned (.string (s.extract s.size s.size)) := by
  rw [show s.extract s.size s.size = ByteArray.empty from by simp]
theorem size_len (s : ByteArray) : s.data.toList.length = s.size := by simp

set_option maxHeartbeats 400000 in
theorem trim_any (s : ByteArray) (w : World) (hs : s.size ≤ maxLen) :
    Calls Try.prog 14 #[.string s] w fun e w' => (∃ k m, Trimmed s.data.toList k m ∧ e = .returned (.string (s.extract k m))) ∧ w' = w := by
  unfold maxLen at hs
  go_enter Try.func14, Try.ntmps14
  go_wp2
  go_loop [3] (fun i => ∃ k : Nat, k ≤ s.size ∧ i = .int .i64 k ∧ ∀ i, i < k → isAt s.data.toList i = true) (fun i => s.size - (intOf i).toNat)
  case atStart => exact ⟨0, Nat.zero_le _, rfl, fun i h => absurd h (Nat.not_lt_zero _)⟩
  case round =>
    obtain ⟨k, hk, rfl, hf⟩ := hrel
    have HF : Hid (∀ i, i < k → isAt s.data.toList i = true) := hf
    clear hf
    by_cases hlt : k < s.size ∧ isAt s.data.toList k = true
    · obtain ⟨hlt, hi⟩ := hlt
      have hb : blB (s[k].toNat : Int) = true := by rw [← isAt_eq s k hlt]; exact hi
      have HI : Hid (isAt s.data.toList k = true) := hi
      clear hi
      go_wp2_with (go_at_call 13; refine (isBlank_any _ _).mono ?_; rintro e w' ⟨rfl, rfl⟩)
      go_round
      case rel =>
        refine ⟨k + 1, by omega, by go_num, fun i hi => ?_⟩
        by_cases e : i = k
        · subst e; exact HI.out
        · exact HF.out i (by omega)
      case measure => simp [intOf]; omega
    · have HS : Hid (k = s.size ∨ isAt s.data.toList k = false) := by
        by_cases e : k < s.size
        · right; cases h : isAt s.data.toList k
          · rfl
          · exact absurd ⟨e, h⟩ hlt
        · left; omega
      clear hlt
      have hb' : ∀ h : k < s.size, blB (s[k].toNat : Int) = false := fun h => by
        rw [← isAt_eq s k h]; exact HS.out.resolve_left (by omega)
      by_cases hlt : k < s.size
      · have hb := hb' hlt
        clear hb'
        go_wp2_with (go_at_call 13; refine (isBlank_any _ _).mono ?_; rintro e w' ⟨rfl, rfl⟩)
        go_loop [4] (fun i => ∃ m : Nat, k ≤ m ∧ m ≤ s.size ∧ i = .int .i64 m ∧ ∀ i, m ≤ i → i < s.size → isAt s.data.toList i = true) (fun i => (intOf i).toNat)
        case atStart => exact ⟨s.size, hk, Nat.le_refl _, rfl, fun i h h' => absurd h' (by omega)⟩
        case round =>
          obtain ⟨m, hm, hm', rfl, hf⟩ := hrel
          have HB : Hid (∀ i, m ≤ i → i < s.size → isAt s.data.toList i = true) := hf
          clear hf
          by_cases hlt2 : k < m
          · have hm1 : m - 1 < s.size := by omega
            have hmx : 1 ≤ (m : Int) ∧ (m : Int) - 1 < s.size := by omega
            have HI : Hid (isAt s.data.toList (m - 1) = blB (s[m - 1].toNat : Int)) := isAt_eq s (m - 1) hm1
            by_cases hc : blB (s[m - 1].toNat : Int) = true
            · go_wp2_with (go_at_call 13; refine (isBlank_any _ _).mono ?_; rintro e w' ⟨rfl, rfl⟩)
              go_round
              case rel =>
                refine ⟨m - 1, by omega, by omega, by go_num, fun i hi hi' => ?_⟩
                by_cases e : i = m - 1
                · subst e; rw [HI.out]; exact hc
                · exact HB.out i (by omega) hi'
              case measure => simp [intOf]; omega
            · have hc' : blB (s[m - 1].toNat : Int) = false := by simpa using hc
              clear hc
              go_wp2_with (go_at_call 13; refine (isBlank_any _ _).mono ?_; rintro e w' ⟨rfl, rfl⟩)
              go_ret
              exact ⟨⟨k, m, ⟨hm, by rw [size_len]; exact hm', HF.out, fun i h h' => HB.out i h (by rw [size_len] at h'; exact h'), by rw [size_len]; exact HS.out, .inr (by rw [HI.out]; exact hc')⟩, rfl⟩, rfl⟩
          · go_wp2
            go_ret
            exact ⟨⟨k, m, ⟨hm, by rw [size_len]; exact hm', HF.out, fun i h h' => HB.out i h (by rw [size_len] at h'; exact h'), by rw [size_len]; exact HS.out, .inl (by omega)⟩, rfl⟩, rfl⟩
      · clear hb'
        have hke : k = s.size := by omega
        go_wp2
        go_loop [4] (fun i => i = .int .i64 s.size) (fun i => (intOf i).toNat)
        case atStart => rfl
        case round =>
          subst hrel
          go_wp2
          go_ret
          exact ⟨⟨s.size, s.size, ⟨Nat.le_refl _, by rw [size_len]; exact Nat.le_refl _, fun i h => HF.out i (by omega), fun i h h' => by rw [size_len] at h'; omega, .inl (size_len s).symm, .inl rfl⟩, ret_empty s⟩, rfl⟩

set_option maxHeartbeats 400000 in
theorem zztrim_any (s : ByteArray) (w : World) (hs : s.size ≤ maxLen) :
    Calls Try.prog 11 #[.string s] w fun e w' => (∃ k m, Trimmed s.data.toList k m ∧ e = .returned (.string (s.extract k m))) ∧ w' = w := by
  go_enter Try.func11, Try.ntmps11
  go_wp2_with (go_at_call 14; refine (trim_any _ _ hs).mono ?_; rintro e w' ⟨⟨k, m, ht, rfl⟩, rfl⟩)
  go_ret
  exact ⟨⟨k, m, ht, rfl⟩, rfl⟩
end Go.Proofs.Qxb6616249a
