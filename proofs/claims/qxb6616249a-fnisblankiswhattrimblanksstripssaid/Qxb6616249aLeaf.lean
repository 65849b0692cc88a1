import Derived.Test.Qxb6616249aRows
import Derived.WalkKit
import Derived.WalkSpells
import Derived.WalkLawsBesides
namespace Go.Proofs.Qxb6616249a
open Go.RowKit

/-- A blank: a space or a tab. -/
def blB (c : Int) : Bool := c == 32 || c == 9
theorem blB_iff (c : Int) : blB c = true ↔ (c = 32 ∨ c = 9) := by simp [blB]

theorem ret_bool {a b : Bool} (h : a = b) : Ending.returned (.bool a) = .returned (.bool b) := by rw [h]

set_option maxHeartbeats 400000 in
theorem isBlank_any (c : Int) (w : World) :
    Calls Try.prog 13 #[.int .u8 c] w fun e w' => e = .returned (.bool (blB c)) ∧ w' = w := by
  by_cases h : c = 32
  · have h1 : (c == 32) = true := by simpa using h
    have hb : Hid (blB c = true) := by rw [blB_iff]; exact .inl h
    clear h
    go_enter Try.func13, Try.ntmps13
    go_wp2
    go_ret
    exact ⟨ret_bool hb.out.symm, rfl⟩
  · have h1 : (c == 32) = false := by simpa using h
    have hb : Hid (blB c = (c == 9)) := by unfold blB; rw [h1]; rfl
    clear h
    go_enter Try.func13, Try.ntmps13
    go_wp2
    go_ret
    exact ⟨ret_bool hb.out.symm, rfl⟩

set_option maxHeartbeats 400000 in
theorem isSpaceOrTab_any (c : Int) (w : World) :
    Calls Try.prog 9 #[.int .u8 c] w fun e w' => e = .returned (.bool (blB c)) ∧ w' = w := by
  by_cases h : c = 32
  · have h1 : (c == 32) = true := by simpa using h
    have hb : Hid (blB c = true) := by rw [blB_iff]; exact .inl h
    clear h
    go_enter Try.func9, Try.ntmps9
    go_wp2
    go_ret
    exact ⟨ret_bool hb.out.symm, rfl⟩
  · have h1 : (c == 32) = false := by simpa using h
    have hb : Hid (blB c = (c == 9)) := by unfold blB; rw [h1]; rfl
    clear h
    go_enter Try.func9, Try.ntmps9
    go_wp2
    go_ret
    exact ⟨ret_bool hb.out.symm, rfl⟩

set_option maxHeartbeats 400000 in
theorem zzisBlank_any (c : Int) (w : World) :
    Calls Try.prog 10 #[.int .u8 c] w fun e w' => e = .returned (.bool (blB c)) ∧ w' = w := by
  go_enter Try.func10, Try.ntmps10
  go_wp2_with (go_at_call 13; refine (isBlank_any _ _).mono ?_; rintro e w' ⟨rfl, rfl⟩)
  go_ret
  exact ⟨rfl, rfl⟩

set_option maxHeartbeats 400000 in
theorem bytes_any (c : Int) (s : ByteArray) (w : World) (hs : s.size ≤ maxLen) :
    Calls Try.prog 8 #[.int .u8 c, .string s] w fun e w' => e = .returned (.bool (decide (s.size ≤ 1048576))) ∧ w' = w := by
  unfold maxLen at hs
  by_cases h : s.size ≤ 1048576
  · go_enter Try.func8, Try.ntmps8
    go_wp2
    go_ret
    exact ⟨ret_bool (by simpa using h), rfl⟩
  · go_enter Try.func8, Try.ntmps8
    go_wp2
    go_ret
    exact ⟨ret_bool (by simpa using h), rfl⟩
end Go.Proofs.Qxb6616249a
