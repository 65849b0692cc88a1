import Derived.Test.Qxb6616441aTransWalk
import Derived.Test.Qxb6616441aTransIn
namespace Go.Proofs.Qxb6616441a
open Go.RowKit

theorem trans_walk (a0 : Option Addr) (len0 cap0 : Nat) (z0 : List Int) (a1 : Option Addr) (len1 cap1 : Nat) (z1 : List Int) (a2 : Int) (a3 : Int) (a4 : Int) (w : World) (w0 : IsRow .u64 w a0 len0 cap0 z0) (w1 : IsRow .i64 w a1 len1 cap1 z1) :
    Calls Try.prog 4 #[.slice a0 len0 cap0, .slice a1 len1 cap1, .int .i64 a2, .int .i64 a3, .int .i64 a4] w fun e w' => e = .returned (.bool true) ∧ Below w.heap.size w w' := by
  by_cases hg : len0 ≤ 65536 ∧ len1 ≤ 65536 ∧ 0 ≤ a2 ∧ a2 < len1 ∧ 0 ≤ a3 ∧ a3 < len1 ∧ 0 ≤ a4 ∧ a4 < len1
  · obtain ⟨g0, g1, i0, i1, j0, j1, k0, k1⟩ := hg
    obtain ⟨i, rfl⟩ := Int.eq_ofNat_of_zero_le i0
    obtain ⟨j, rfl⟩ := Int.eq_ofNat_of_zero_le j0
    obtain ⟨k, rfl⟩ := Int.eq_ofNat_of_zero_le k0
    have hi : i < len1 := by omega
    have hj : j < len1 := by omega
    have hk : k < len1 := by omega
    rcases w1.cells with ⟨_, hz, _⟩ | ⟨x1, rfl, ho⟩
    · omega
    · rcases w0.cells with ⟨rfl, rfl, rfl⟩ | ⟨x0, rfl, hh⟩
      · exact trans_nil x1 len1 cap1 (fun t => z1.getD t 0) i j k w g1 hi hj hk ho
      · by_cases hb : 0 ≤ z1.getD i 0 ∧ z1.getD i 0 < len0 ∧ 0 ≤ z1.getD j 0 ∧ z1.getD j 0 < len0 ∧ 0 ≤ z1.getD k 0 ∧ z1.getD k 0 < len0
        · obtain ⟨p0, p1, r0, r1, s0, s1⟩ := hb
          obtain ⟨a, ha⟩ := Int.eq_ofNat_of_zero_le p0
          obtain ⟨b, hb⟩ := Int.eq_ofNat_of_zero_le r0
          obtain ⟨c, hc⟩ := Int.eq_ofNat_of_zero_le s0
          exact trans_good x0 x1 len0 cap0 len1 cap1 (fun t => z0.getD t 0) (fun t => z1.getD t 0) i j k a b c w g0 g1 hi hj hk hh ho ha hb hc (by omega) (by omega) (by omega)
        · exact trans_bad x0 x1 len0 cap0 len1 cap1 (fun t => z0.getD t 0) (fun t => z1.getD t 0) i j k w g0 g1 hi hj hk hh ho (by show z1.getD i 0 < 0 ∨ (len0 : Int) ≤ z1.getD i 0 ∨ z1.getD j 0 < 0 ∨ (len0 : Int) ≤ z1.getD j 0 ∨ z1.getD k 0 < 0 ∨ (len0 : Int) ≤ z1.getD k 0; omega)
  · exact trans_out a0 a1 len0 cap0 len1 cap1 a2 a3 a4 w w0.len_le w1.len_le (by omega)
end Go.Proofs.Qxb6616441a
