import Derived.Test.Qxb6616249aPlain
import Derived.ProofKit
import Derived.OpenShut
import Derived.Lib.Strings
namespace Go.Proofs.Qxb6616249a.fnIsBlankIsWhatTrimBlanksStrips
open Go.ChangeShapes Go.WideShapes Go.ChangeAt Go.RowKit
set_option linter.unusedVariables false

/-- The string of one byte. -/
def one (c : UInt8) : ByteArray := ⟨[c].toArray⟩
theorem one_size (c : UInt8) : (one c).size = 1 := rfl
theorem one_list (c : UInt8) : (one c).data.toList = [c] := rfl

theorem conv_one (c : UInt8) (w : World) : (convert 31 9 (.slice (some ⟨w.heap.size, 0, none⟩) 1 1)).run Try.prog (w.alloc (.cells #[.int .u8 (c.toNat : Int)] 5)) = .ok (.string (one c)) (w.alloc (.cells #[.int .u8 (c.toNat : Int)] 5)) := by
  refine run_convert_bytes_back (P := Try.prog) _ 31 9 5 ⟨w.heap.size, 0, none⟩ 1 [c] Try.underlying31 Try.underlying5 Try.underlying9 ?_
  intro j hj
  have : j = 0 := by simpa using hj
  subst this
  simp [Addr.add]

theorem byte_of (a : Int) (h : (Lit.int .u8 a).wf = true) : ∃ c : UInt8, a = (c.toNat : Int) := by
  have := bounds_u8 h
  exact ⟨UInt8.ofNat a.toNat, by simp; omega⟩

theorem list_wrap (c : UInt8) (s : ByteArray) (k m : Nat) : (one c ++ s.extract k m ++ one c).data.toList = [c] ++ mid s.data.toList k m ++ [c] := by
  rw [ByteArray.data_append, ByteArray.data_append, Array.toList_append, Array.toList_append, Lib.extract_data]
  rfl

theorem bytes_ext {a b : ByteArray} (h : a.data.toList = b.data.toList) : a = b := by
  cases a with | mk a => cases b with | mk b => simpa using h

theorem same_blank {c : UInt8} {s : ByteArray} {k m k' m' : Nat} (hc : blB (c.toNat : Int) = true) (ht : Trimmed s.data.toList k m)
    (ht' : Trimmed (one c ++ s.extract k m ++ one c).data.toList k' m') :
    (((one c ++ s.extract k m ++ one c).extract k' m').toList == (s.extract k m).toList) = true := by
  have : (one c ++ s.extract k m ++ one c).extract k' m' = s.extract k m := by
    apply bytes_ext
    rw [list_wrap] at ht'
    rw [Lib.extract_data, Lib.extract_data, list_wrap]
    exact wrap_blank hc (trimmed_ends ht) ht'
  rw [this]; simp

theorem same_other {c : UInt8} {s : ByteArray} {k m k' m' : Nat} (hc : blB (c.toNat : Int) = false)
    (ht' : Trimmed (one c ++ s.extract k m ++ one c).data.toList k' m') :
    (((one c ++ s.extract k m ++ one c).extract k' m').toList == (one c ++ s.extract k m ++ one c).toList) = true := by
  have : (one c ++ s.extract k m ++ one c).extract k' m' = one c ++ s.extract k m ++ one c := by
    apply bytes_ext
    rw [list_wrap] at ht'
    rw [Lib.extract_data, list_wrap]
    exact wrap_other hc ht'
  rw [this]; simp

/-! ### STEP 1: THE WALK: the Go text returns true. -/
theorem walk (a0 : Int) (a1 : ByteArray) (w0 : (Lit.int .u8 a0).wf = true) (w1 : a1.size ≤ maxLen) (w : World) :
    Calls Try.prog 4 #[.int .u8 a0, .string a1] w fun e w' => e = .returned (.bool true) ∧ Grown w w' := by
  obtain ⟨c, rfl⟩ := byte_of a0 w0
  clear w0
  have hcv := conv_one c
  have ho := one_size c
  by_cases hl : a1.size ≤ 65536
  · have h20 : a1.size ≤ 1048576 := by omega
    have hd20 : decide (a1.size ≤ 1048576) = true := by simpa using h20
    unfold maxLen at w1
    by_cases hb : blB (c.toNat : Int) = true
    · go_enter Try.func4, Try.ntmps4
      go_wp2_with fail
      refine (bytes_any _ _ _ (by unfold maxLen; omega)).mono ?_
      rintro e w' ⟨rfl, rfl⟩
      go_wp2_with fail
      refine (isSpaceOrTab_any _ _).mono ?_
      rintro e w' ⟨rfl, rfl⟩
      go_wp2_with fail
      refine (zzisBlank_any _ _).mono ?_
      rintro e w' ⟨rfl, rfl⟩
      go_wp2_with fail
      refine (zztrim_any _ _ (by unfold maxLen; omega)).mono ?_
      rintro e w' ⟨⟨k, m, ht, rfl⟩, rfl⟩
      have hz : (one c ++ a1.extract k m ++ one c).size ≤ maxLen := by simp [ho]; unfold maxLen; omega
      go_wp2_with fail
      refine (zztrim_any _ _ hz).mono ?_
      rintro e w' ⟨⟨k', m', ht', rfl⟩, rfl⟩
      go_wp2
      go_ret
      exact ⟨ret_bool (same_blank hb ht ht'), by repeat (first | exact Grown.refl _ | apply Grown.drew | apply Grown.alloc)⟩
    · have hb' : blB (c.toNat : Int) = false := by simpa using hb
      clear hb
      go_enter Try.func4, Try.ntmps4
      go_wp2_with fail
      refine (bytes_any _ _ _ (by unfold maxLen; omega)).mono ?_
      rintro e w' ⟨rfl, rfl⟩
      go_wp2_with fail
      refine (isSpaceOrTab_any _ _).mono ?_
      rintro e w' ⟨rfl, rfl⟩
      go_wp2_with fail
      refine (zzisBlank_any _ _).mono ?_
      rintro e w' ⟨rfl, rfl⟩
      go_wp2_with fail
      refine (zztrim_any _ _ (by unfold maxLen; omega)).mono ?_
      rintro e w' ⟨⟨k, m, ht, rfl⟩, rfl⟩
      have hz : (one c ++ a1.extract k m ++ one c).size ≤ maxLen := by simp [ho]; unfold maxLen; omega
      go_wp2_with fail
      refine (zztrim_any _ _ hz).mono ?_
      rintro e w' ⟨⟨k', m', ht', rfl⟩, rfl⟩
      go_wp2
      go_ret
      exact ⟨ret_bool (same_other hb' ht'), by repeat (first | exact Grown.refl _ | apply Grown.drew | apply Grown.alloc)⟩
  · unfold maxLen at w1
    by_cases hd : a1.size ≤ 1048576
    · have hd20 : decide (a1.size ≤ 1048576) = true := by simpa using hd
      go_enter Try.func4, Try.ntmps4
      go_wp2_with (go_at_call 8; refine (bytes_any _ _ _ (by unfold maxLen; omega)).mono ?_; rintro e w' ⟨rfl, rfl⟩)
      go_ret
      exact ⟨rfl, by repeat (first | exact Grown.refl _ | apply Grown.drew | apply Grown.alloc)⟩
    · have hd20 : decide (a1.size ≤ 1048576) = false := by simpa using hd
      go_enter Try.func4, Try.ntmps4
      go_wp2_with (go_at_call 8; refine (bytes_any _ _ _ (by unfold maxLen; omega)).mono ?_; rintro e w' ⟨rfl, rfl⟩)
      go_ret
      exact ⟨rfl, by repeat (first | exact Grown.refl _ | apply Grown.drew | apply Grown.alloc)⟩

end Go.Proofs.Qxb6616249a.fnIsBlankIsWhatTrimBlanksStrips
