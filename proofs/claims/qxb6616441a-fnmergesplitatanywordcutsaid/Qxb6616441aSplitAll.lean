import Derived.Test.Qxb6616441aSplitIn
import Derived.Test.Qxb6616441aWords
namespace Go.Proofs.Qxb6616441a
open Go.RowKit

set_option maxRecDepth 20000 in
set_option maxHeartbeats 1600000 in
theorem split_zero (a : Option Addr) (cap : Nat) (mAll sAll : Bool) (w : World) :
    Calls Try.prog 5 #[.slice a 0 cap, .bool mAll, .int .i64 0, .bool sAll, .int .i64 0, .int .i64 0, .int .i64 0] w fun e w' => e = .returned (.bool true) ∧ Below w.heap.size w w' := by
  have hap : apB 0 0 0 = true := rfl
  go_enter Try.func5, Try.ntmps5
  go_wp2_with fail
  refine (bytes12_any _ 0 cap mAll sAll 0 0 0 0 _ (by omega)).mono ?_
  rintro e w0 ⟨⟨r, rfl⟩, rfl⟩
  cases r with
  | false =>
    go_wp2
    go_ret
    exact ⟨rfl, Below.refl _ _⟩
  | true =>
    go_wp2_with fail
    refine (apart_any _ _ _ _ (by omega) (by omega) (by omega) (by omega) (by omega) (by omega)).mono ?_
    rintro e w1 ⟨rfl, rfl⟩
    go_wp2_with fail
    refine (clone_zero a cap _).mono ?_
    rintro e w2 ⟨⟨a2, c2, rfl⟩, b2⟩
    go_wp2_with fail
    refine (clone_zero a cap _).mono ?_
    rintro e w3 ⟨⟨a3, c3, rfl⟩, b3⟩
    have B3 : Below w1.heap.size w1 w3 := b2.trans (b3.mono b2.size)
    clear b2 b3
    go_wp2_with fail
    refine (zz_zero a2 c2 mAll sAll _).mono ?_
    rintro e w4 ⟨rfl, b4⟩
    have B4 : Below w1.heap.size w1 w4 := B3.trans (b4.mono B3.size)
    clear b4
    go_wp2_with fail
    refine (zz_zero a3 c3 mAll sAll _).mono ?_
    rintro e w5 ⟨rfl, b5⟩
    have B5 : Below w1.heap.size w1 w5 := B4.trans (b5.mono B4.size)
    clear b5
    go_wp2_with fail
    refine (zz_zero a3 c3 mAll sAll _).mono ?_
    rintro e w6 ⟨rfl, b6⟩
    have B6 : Below w1.heap.size w1 w6 := B5.trans (b6.mono B5.size)
    clear b6 B3 B4 B5
    cases mAll
    · cases sAll
      · go_wp2_with fail
        refine (clone_zero a cap _).mono ?_
        rintro e w7 ⟨⟨a7, c7, rfl⟩, b7⟩
        have B7 : Below w1.heap.size w1 w7 := B6.trans (b7.mono B6.size)
        clear b7 B6
        go_wp2_with fail
        go_loop [24] (fun i => i = .int .i64 0) (fun i => (intOf i).toNat)
        case atStart => rfl
        case round =>
          subst hrel
          go_wp2_with fail
          refine (eq_zero a2 a7 c2 c7 _).mono ?_
          rintro e w8 ⟨rfl, q1, rfl⟩
          go_wp2_with fail
          refine (eq_zero a3 a7 c3 c7 _).mono ?_
          rintro e w8 ⟨rfl, q2, rfl⟩
          go_wp2
          go_ret
          exact ⟨rfl, below_drewN B7 (q1 + q2)⟩
      · go_wp2_with fail
        refine (clone_zero a cap _).mono ?_
        rintro e w7 ⟨⟨a7, c7, rfl⟩, b7⟩
        have B7 : Below w1.heap.size w1 w7 := B6.trans (b7.mono B6.size)
        clear b7 B6
        go_wp2_with fail
        refine (eq_zero a2 a7 c2 c7 _).mono ?_
        rintro e w8 ⟨rfl, q1, rfl⟩
        go_wp2_with fail
        refine (eq_zero a3 a7 c3 c7 _).mono ?_
        rintro e w8 ⟨rfl, q2, rfl⟩
        go_wp2
        go_ret
        exact ⟨rfl, below_drewN B7 (q1 + q2)⟩
    · go_wp2_with fail
      refine (clone_zero a cap _).mono ?_
      rintro e w7 ⟨⟨a7, c7, rfl⟩, b7⟩
      have B7 : Below w1.heap.size w1 w7 := B6.trans (b7.mono B6.size)
      clear b7 B6
      go_wp2_with fail
      refine (eq_zero a2 a7 c2 c7 _).mono ?_
      rintro e w8 ⟨rfl, q1, rfl⟩
      go_wp2_with fail
      refine (eq_zero a3 a7 c3 c7 _).mono ?_
      rintro e w8 ⟨rfl, q2, rfl⟩
      go_wp2
      go_ret
      exact ⟨rfl, below_drewN B7 (q1 + q2)⟩

theorem split_walk (a0 : Option Addr) (len0 cap0 : Nat) (z0 : List Int) (a1 : Bool) (a2 : Int) (a3 : Bool) (a4 : Int) (a5 : Int) (a6 : Int) (w : World) (w0 : WRow .u64 w a0 len0 cap0 z0) :
    Calls Try.prog 5 #[.slice a0 len0 cap0, .bool a1, .int .i64 a2, .bool a3, .int .i64 a4, .int .i64 a5, .int .i64 a6] w fun e w' => e = .returned (.bool true) ∧ Below w.heap.size w w' := by
  by_cases g1 : len0 ≤ 65536 ∧ 0 ≤ a5 ∧ a5 ≤ 4194304
  · obtain ⟨hN, n0, n1⟩ := g1
    by_cases g2 : (a5 + 63) / 64 ≤ (len0 : Int) ∧ 0 ≤ a2 ∧ a2 ≤ (len0 : Int) - (a5 + 63) / 64 ∧ 0 ≤ a4 ∧ a4 ≤ (len0 : Int) - (a5 + 63) / 64
    · obtain ⟨hw, m0, m1, s0, s1⟩ := g2
      by_cases g3 : apB a2 a4 ((a5 + 63) / 64) = true ∧ 0 ≤ a6 ∧ a6 ≤ (a5 + 63) / 64
      · obtain ⟨hap, c0, c1⟩ := g3
        rcases Nat.eq_zero_or_pos len0 with rfl | hp
        · obtain rfl : a5 = 0 := by omega
          obtain rfl : a2 = 0 := by omega
          obtain rfl : a4 = 0 := by omega
          obtain rfl : a6 = 0 := by omega
          exact split_zero a0 cap0 a1 a3 w
        · obtain ⟨b, off, f, rfl, hb, hf, hc⟩ := w0.words hp
          obtain ⟨n, rfl⟩ := Int.eq_ofNat_of_zero_le n0
          obtain ⟨m, rfl⟩ := Int.eq_ofNat_of_zero_le m0
          obtain ⟨s, rfl⟩ := Int.eq_ofNat_of_zero_le s0
          obtain ⟨cut, rfl⟩ := Int.eq_ofNat_of_zero_le c0
          obtain ⟨W, hW⟩ := Int.eq_ofNat_of_zero_le (show (0 : Int) ≤ ((n : Int) + 63) / 64 by omega)
          rw [hW] at hw m1 s1 hap c1
          by_cases e : cut = W
          · exact split_in b off len0 cap0 a1 a3 m s n cut W n f w hf hc hb hN (by omega) hW (by omega) (by omega) hap (by omega) (.inl ⟨beq_iff_eq.2 (by omega), rfl⟩) (show _ = _ by omega) (Nat.le_refl _) (show _ = _ by omega)
          · exact split_in b off len0 cap0 a1 a3 m s n cut W (64 * cut) f w hf hc hb hN (by omega) hW (by omega) (by omega) hap (by omega) (.inr ⟨beq_eq_false_iff_ne.2 (by omega), rfl⟩) (show _ = _ by omega) (by omega) (show _ = _ by omega)
      · refine split_out3 a0 len0 cap0 a1 a3 a2 a4 a5 a6 w hN n0 n1 hw m0 m1 s0 s1 ?_
        cases hap : apB a2 a4 ((a5 + 63) / 64) with
        | false => exact .inl rfl
        | true =>
          right
          refine ⟨rfl, ?_⟩
          have : ¬ (0 ≤ a6 ∧ a6 ≤ (a5 + 63) / 64) := fun h => g3 ⟨hap, h⟩
          omega
    · exact split_out2 a0 len0 cap0 a1 a3 a2 a4 a5 a6 w hN n0 n1 (by omega)
  · exact split_out1 a0 len0 cap0 a1 a3 a2 a4 a5 a6 w w0.len_le (by omega)
end Go.Proofs.Qxb6616441a
