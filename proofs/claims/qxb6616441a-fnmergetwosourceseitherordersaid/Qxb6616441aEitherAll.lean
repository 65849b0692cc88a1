import Derived.Test.Qxb6616441aEitherIn
import Derived.Test.Qxb6616441aEitherOut
import Derived.Test.Qxb6616441aWords
namespace Go.Proofs.Qxb6616441a
open Go.RowKit

set_option maxRecDepth 20000 in
set_option maxHeartbeats 3200000 in
theorem either_zero (a : Option Addr) (cap : Nat) (mAll sAll tAll : Bool) (w : World) :
    Calls Try.prog 6 #[.slice a 0 cap, .bool mAll, .int .i64 0, .bool sAll, .int .i64 0, .bool tAll, .int .i64 0, .int .i64 0] w fun e w' => e = .returned (.bool true) ∧ Below w.heap.size w w' := by
  have hap : apB 0 0 0 = true := rfl
  go_enter Try.func6, Try.ntmps6
  go_wp2_with fail
  refine (bytes17_any _ 0 cap mAll sAll tAll 0 0 0 0 _ (by omega)).mono ?_
  rintro e w0 ⟨⟨r, rfl⟩, rfl⟩
  cases r with
  | false =>
    go_wp2
    go_ret
    exact ⟨rfl, Below.refl _ _⟩
  | true =>
    go_wp2_with fail
    refine (apart_any _ _ _ _ (by omega) (by omega) (by omega) (by omega) (by omega) (by omega)).mono ?_
    rintro e w1 ⟨rfl, rfl⟩
    go_wp2_with fail
    refine (apart_any _ _ _ _ (by omega) (by omega) (by omega) (by omega) (by omega) (by omega)).mono ?_
    rintro e w1 ⟨rfl, rfl⟩
    go_wp2_with fail
    refine (apart_any _ _ _ _ (by omega) (by omega) (by omega) (by omega) (by omega) (by omega)).mono ?_
    rintro e w1 ⟨rfl, rfl⟩
    go_wp2_with fail
    refine (clone_zero a cap _).mono ?_
    rintro e w2 ⟨⟨a2, c2, rfl⟩, B2⟩
    go_wp2_with fail
    refine (zz_zero a2 c2 mAll sAll _).mono ?_
    rintro e w3 ⟨rfl, b3⟩
    have B3 : Below w1.heap.size w1 w3 := B2.trans (b3.mono B2.size)
    clear b3 B2
    go_wp2_with fail
    refine (zz_zero a2 c2 _ tAll _).mono ?_
    rintro e w4 ⟨rfl, b4⟩
    have B4 : Below w1.heap.size w1 w4 := B3.trans (b4.mono B3.size)
    clear b4 B3
    go_wp2_with fail
    refine (clone_zero a cap _).mono ?_
    rintro e w5 ⟨⟨a5, c5, rfl⟩, b5⟩
    have B5 : Below w1.heap.size w1 w5 := B4.trans (b5.mono B4.size)
    clear b5 B4
    go_wp2_with fail
    refine (zz_zero a5 c5 mAll tAll _).mono ?_
    rintro e w6 ⟨rfl, b6⟩
    have B6 : Below w1.heap.size w1 w6 := B5.trans (b6.mono B5.size)
    clear b6 B5
    go_wp2_with fail
    refine (zz_zero a5 c5 _ sAll _).mono ?_
    rintro e w7 ⟨rfl, b7⟩
    have B7 : Below w1.heap.size w1 w7 := B6.trans (b7.mono B6.size)
    clear b7 B6
    go_wp2_with fail
    refine (clone_zero a2 c2 _).mono ?_
    rintro e w8 ⟨⟨a8, c8, rfl⟩, b8⟩
    have B8 : Below w1.heap.size w1 w8 := B7.trans (b8.mono B7.size)
    clear b8 B7
    go_wp2_with fail
    refine (zz_zero a8 c8 _ sAll _).mono ?_
    rintro e w9 ⟨rfl, b9⟩
    have B9 : Below w1.heap.size w1 w9 := B8.trans (b9.mono B8.size)
    clear b9 B8
    cases mAll <;> cases sAll <;> cases tAll
    all_goals
      go_wp2_with fail
      refine (clone_zero a cap _).mono ?_
      rintro e w10 ⟨⟨a10, c10, rfl⟩, b10⟩
      have B10 : Below w1.heap.size w1 w10 := B9.trans (b10.mono B9.size)
      clear b10 B9
      go_wp2_with fail
      refine (clone_zero a cap _).mono ?_
      rintro e w11 ⟨⟨a11, c11, rfl⟩, b11⟩
      have B11 : Below w1.heap.size w1 w11 := B10.trans (b11.mono B10.size)
      clear b11 B10
      go_wp2_with fail
      go_loop [27] (fun i => i = .int .i64 0) (fun i => (intOf i).toNat)
      case atStart => rfl
      case round =>
        subst hrel
        go_wp2_with fail
        refine (eq_zero a2 a10 c2 c10 _).mono ?_
        rintro e w12 ⟨rfl, q1, rfl⟩
        go_wp2_with fail
        refine (eq_zero a5 a11 c5 c11 _).mono ?_
        rintro e w12 ⟨rfl, q2, rfl⟩
        go_wp2_with fail
        refine (eq_zero a8 a2 c8 c2 _).mono ?_
        rintro e w12 ⟨rfl, q3, rfl⟩
        go_wp2
        go_ret
        exact ⟨rfl, below_drewN B11 (q1 + q2 + q3)⟩

theorem either_walk (a0 : Option Addr) (len0 cap0 : Nat) (z0 : List Int) (a1 : Bool) (a2 : Int) (a3 : Bool) (a4 : Int) (a5 : Bool) (a6 : Int) (a7 : Int) (w : World) (w0 : WRow .u64 w a0 len0 cap0 z0) :
    Calls Try.prog 6 #[.slice a0 len0 cap0, .bool a1, .int .i64 a2, .bool a3, .int .i64 a4, .bool a5, .int .i64 a6, .int .i64 a7] w fun e w' => e = .returned (.bool true) ∧ Below w.heap.size w w' := by
  by_cases g1 : len0 ≤ 65536 ∧ 0 ≤ a7 ∧ a7 ≤ 4194304
  · obtain ⟨hN, n0, n1⟩ := g1
    by_cases g2 : (a7 + 63) / 64 ≤ (len0 : Int) ∧ 0 ≤ a2 ∧ a2 ≤ (len0 : Int) - (a7 + 63) / 64 ∧ 0 ≤ a4 ∧ a4 ≤ (len0 : Int) - (a7 + 63) / 64 ∧ 0 ≤ a6 ∧ a6 ≤ (len0 : Int) - (a7 + 63) / 64
    · obtain ⟨hw, m0, m1, s0, s1, t0, t1⟩ := g2
      by_cases g3 : apB a2 a4 ((a7 + 63) / 64) = true ∧ apB a2 a6 ((a7 + 63) / 64) = true ∧ apB a4 a6 ((a7 + 63) / 64) = true
      · obtain ⟨hap1, hap2, hap3⟩ := g3
        rcases Nat.eq_zero_or_pos len0 with rfl | hp
        · obtain rfl : a7 = 0 := by omega
          obtain rfl : a2 = 0 := by omega
          obtain rfl : a4 = 0 := by omega
          obtain rfl : a6 = 0 := by omega
          exact either_zero a0 cap0 a1 a3 a5 w
        · obtain ⟨b, off, f, rfl, hb, hf, hc⟩ := w0.words hp
          obtain ⟨n, rfl⟩ := Int.eq_ofNat_of_zero_le n0
          obtain ⟨m, rfl⟩ := Int.eq_ofNat_of_zero_le m0
          obtain ⟨s, rfl⟩ := Int.eq_ofNat_of_zero_le s0
          obtain ⟨t, rfl⟩ := Int.eq_ofNat_of_zero_le t0
          obtain ⟨W, hW⟩ := Int.eq_ofNat_of_zero_le (show (0 : Int) ≤ ((n : Int) + 63) / 64 by omega)
          rw [hW] at hw m1 s1 t1 hap1 hap2 hap3
          exact either_in b off len0 cap0 a1 a3 a5 m s t n W f w hf hc hb hN (by omega) hW (by omega) (by omega) (by omega) hap1 hap2 hap3
      · refine either_out3 a0 len0 cap0 a1 a3 a5 a2 a4 a6 a7 w hN n0 n1 hw m0 m1 s0 s1 t0 t1 ?_
        cases h1 : apB a2 a4 ((a7 + 63) / 64) with
        | false => exact .inl rfl
        | true =>
          right
          cases h2 : apB a2 a6 ((a7 + 63) / 64) with
          | false => exact .inl ⟨rfl, rfl⟩
          | true =>
            right
            refine ⟨rfl, rfl, ?_⟩
            cases h3 : apB a4 a6 ((a7 + 63) / 64) with
            | false => rfl
            | true => exact absurd ⟨h1, h2, h3⟩ g3
    · exact either_out2 a0 len0 cap0 a1 a3 a5 a2 a4 a6 a7 w hN n0 n1 (by omega)
  · exact either_out1 a0 len0 cap0 a1 a3 a5 a2 a4 a6 a7 w w0.len_le (by omega)
end Go.Proofs.Qxb6616441a
