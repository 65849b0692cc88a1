import Derived.Test.Qxb6616551aRows
import Derived.WalkKit
import Derived.WalkSpells
import Derived.WalkLawsBesides
import Derived.ProofKit
namespace Go.Proofs.Qxb6616551a
open Go.RowKit

/-- A hexadecimal digit. -/
def hexB (c : Int) : Bool := decide ((48 ≤ c ∧ c ≤ 57) ∨ (97 ≤ c ∧ c ≤ 102) ∨ (65 ≤ c ∧ c ≤ 70))
/-- A letter or a digit. -/
def alnB (c : Int) : Bool := decide ((97 ≤ c ∧ c ≤ 122) ∨ (65 ≤ c ∧ c ≤ 90) ∨ (48 ≤ c ∧ c ≤ 57))

theorem hex_iff (c : Int) : hexB c = true ↔ ((48 ≤ c ∧ c ≤ 57) ∨ (97 ≤ c ∧ c ≤ 102) ∨ (65 ≤ c ∧ c ≤ 70)) := by simp [hexB]
theorem aln_iff (c : Int) : alnB c = true ↔ ((97 ≤ c ∧ c ≤ 122) ∨ (65 ≤ c ∧ c ≤ 90) ∨ (48 ≤ c ∧ c ≤ 57)) := by simp [alnB]
theorem hex_aln (c : Int) (h : hexB c = true) : alnB c = true := by rw [hex_iff] at h; rw [aln_iff]; omega

theorem ret_bool {a b : Bool} (h : a = b) : Ending.returned (.bool a) = .returned (.bool b) := by rw [h]

set_option maxHeartbeats 400000 in
theorem isHex_any (c : Int) (w : World) :
    Calls Try.prog 6 #[.int .u8 c] w fun e w' => e = .returned (.bool (hexB c)) ∧ w' = w := by
  go_enter Try.func6, Try.ntmps6
  go_wp2
  all_goals go_ret
  all_goals exact ⟨ret_bool (by rw [Bool.eq_iff_iff, hex_iff]; simp; omega), rfl⟩

set_option maxHeartbeats 400000 in
theorem isAlnum_any (c : Int) (w : World) :
    Calls Try.prog 7 #[.int .u8 c] w fun e w' => e = .returned (.bool (alnB c)) ∧ w' = w := by
  go_enter Try.func7, Try.ntmps7
  go_wp2
  all_goals go_ret
  all_goals exact ⟨ret_bool (by rw [Bool.eq_iff_iff, aln_iff]; simp; omega), rfl⟩

set_option maxHeartbeats 400000 in
theorem zzHex_any (c : Int) (w : World) :
    Calls Try.prog 4 #[.int .u8 c] w fun e w' => e = .returned (.bool (hexB c)) ∧ w' = w := by
  go_enter Try.func4, Try.ntmps4
  go_wp2_with (go_at_call 6; refine (isHex_any _ _).mono ?_; rintro e w' ⟨rfl, rfl⟩)
  go_ret
  exact ⟨rfl, rfl⟩

set_option maxHeartbeats 400000 in
theorem zzAlnum_any (c : Int) (w : World) :
    Calls Try.prog 5 #[.int .u8 c] w fun e w' => e = .returned (.bool (alnB c)) ∧ w' = w := by
  go_enter Try.func5, Try.ntmps5
  go_wp2_with (go_at_call 7; refine (isAlnum_any _ _).mono ?_; rintro e w' ⟨rfl, rfl⟩)
  go_ret
  exact ⟨rfl, rfl⟩

/-- How many of the first k bytes p takes. -/
def cnt (p : Int → Bool) : Nat → Nat
  | 0 => 0
  | k + 1 => cnt p k + if p k then 1 else 0
theorem cnt_le (p : Int → Bool) : ∀ k, cnt p k ≤ k
  | 0 => Nat.le_refl _
  | k + 1 => by
    have := cnt_le p k
    unfold cnt
    split <;> omega
theorem cnt_hex : cnt hexB 256 = 22 := by decide +kernel
theorem cnt_aln : cnt alnB 256 = 62 := by decide +kernel

set_option maxRecDepth 20000 in
set_option maxHeartbeats 800000 in
theorem walk_hex (w : World) :
    Calls Try.prog 3 #[] w fun e w' => e = .returned (.bool true) ∧ w' = w := by
  go_enter Try.func3, Try.ntmps3
  go_wp2
  go_loop [1, 2, 3, 4] (fun nh na bad i => ∃ k : Nat, k ≤ 256 ∧ i = .int .i64 k ∧ nh = .int .i64 (cnt hexB k) ∧ na = .int .i64 (cnt alnB k) ∧ bad = .int .i64 0) (fun _ _ _ i => 256 - (intOf i).toNat)
  case atStart => exact ⟨0, Nat.zero_le _, rfl, rfl, rfl, rfl⟩
  case round =>
    obtain ⟨k, hk, rfl, rfl, rfl, rfl⟩ := hrel
    have lh := cnt_le hexB k
    have la := cnt_le alnB k
    by_cases hlt : k < 256
    · have HH : Hid (cnt hexB (k + 1) = cnt hexB k + if hexB k then 1 else 0) := rfl
      have HA : Hid (cnt alnB (k + 1) = cnt alnB k + if alnB k then 1 else 0) := rfl
      by_cases h1 : hexB k = true
      · have h2 : alnB k = true := hex_aln k h1
        go_wp2_with fail
        refine (zzHex_any _ _).mono ?_
        rintro e w' ⟨rfl, rfl⟩
        go_wp2_with fail
        refine (zzAlnum_any _ _).mono ?_
        rintro e w' ⟨rfl, rfl⟩
        go_wp2
        go_round
        case rel => exact ⟨k + 1, by omega, by go_num, by rw [HH.out, if_pos h1]; go_num, by rw [HA.out, if_pos h2]; go_num, rfl⟩
        case measure => simp [intOf]; omega
      · have h1' : hexB k = false := by simpa using h1
        by_cases h2 : alnB k = true
        · go_wp2_with fail
          refine (zzHex_any _ _).mono ?_
          rintro e w' ⟨rfl, rfl⟩
          go_wp2_with fail
          refine (zzAlnum_any _ _).mono ?_
          rintro e w' ⟨rfl, rfl⟩
          go_wp2
          go_round
          case rel => exact ⟨k + 1, by omega, by go_num, by rw [HH.out, if_neg h1]; go_num, by rw [HA.out, if_pos h2]; go_num, rfl⟩
          case measure => simp [intOf]; omega
        · have h2' : alnB k = false := by simpa using h2
          go_wp2_with fail
          refine (zzHex_any _ _).mono ?_
          rintro e w' ⟨rfl, rfl⟩
          go_wp2_with fail
          refine (zzAlnum_any _ _).mono ?_
          rintro e w' ⟨rfl, rfl⟩
          go_wp2
          go_round
          case rel => exact ⟨k + 1, by omega, by go_num, by rw [HH.out, if_neg h1]; go_num, by rw [HA.out, if_neg h2]; go_num, rfl⟩
          case measure => simp [intOf]; omega
    · have e1 : cnt hexB k = 22 := by rw [show k = 256 by omega]; exact cnt_hex
      have e2 : cnt alnB k = 62 := by rw [show k = 256 by omega]; exact cnt_aln
      clear lh la
      go_wp2
      go_ret
      exact ⟨rfl, rfl⟩
end Go.Proofs.Qxb6616551a
