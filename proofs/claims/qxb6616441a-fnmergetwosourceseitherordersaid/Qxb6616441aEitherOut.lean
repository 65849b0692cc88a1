import Derived.Test.Qxb6616441aSplitOut
namespace Go.Proofs.Qxb6616441a
open Go.RowKit

set_option maxRecDepth 20000 in
set_option maxHeartbeats 1600000 in
theorem either_out1 (a : Option Addr) (len cap : Nat) (mAll sAll tAll : Bool) (m s t n : Int) (w : World) (h0 : len ≤ 9223372036854775807) (h : 65536 < len ∨ n < 0 ∨ 4194304 < n) :
    Calls Try.prog 6 #[.slice a len cap, .bool mAll, .int .i64 m, .bool sAll, .int .i64 s, .bool tAll, .int .i64 t, .int .i64 n] w fun e w' => e = .returned (.bool true) ∧ Below w.heap.size w w' := by
  rcases h with h | h | h
  all_goals
    go_enter Try.func6, Try.ntmps6
    go_wp2_with fail
    refine (bytes17_any a len cap mAll sAll tAll m s t n _ h0).mono ?_
    rintro e w1 ⟨⟨r, rfl⟩, rfl⟩
    cases r
    all_goals go_wp2
    all_goals go_ret
    all_goals exact ⟨rfl, Below.refl _ _⟩

set_option maxRecDepth 20000 in
set_option maxHeartbeats 1600000 in
theorem either_out2 (a : Option Addr) (len cap : Nat) (mAll sAll tAll : Bool) (m s t n : Int) (w : World) (h0 : len ≤ 65536) (h1 : 0 ≤ n) (h2 : n ≤ 4194304) (h : (len : Int) < (n + 63) / 64 ∨ m < 0 ∨ (len : Int) - (n + 63) / 64 < m ∨ s < 0 ∨ (len : Int) - (n + 63) / 64 < s ∨ t < 0 ∨ (len : Int) - (n + 63) / 64 < t) :
    Calls Try.prog 6 #[.slice a len cap, .bool mAll, .int .i64 m, .bool sAll, .int .i64 s, .bool tAll, .int .i64 t, .int .i64 n] w fun e w' => e = .returned (.bool true) ∧ Below w.heap.size w w' := by
  rcases h with h | h | h | h | h | h | h
  all_goals
    go_enter Try.func6, Try.ntmps6
    go_wp2_with fail
    refine (bytes17_any a len cap mAll sAll tAll m s t n _ (by omega)).mono ?_
    rintro e w1 ⟨⟨r, rfl⟩, rfl⟩
    cases r
    all_goals go_wp2
    all_goals go_ret
    all_goals exact ⟨rfl, Below.refl _ _⟩

set_option maxRecDepth 20000 in
set_option maxHeartbeats 1600000 in
theorem either_out3 (a : Option Addr) (len cap : Nat) (mAll sAll tAll : Bool) (m s t n : Int) (w : World) (h0 : len ≤ 65536) (h1 : 0 ≤ n) (h2 : n ≤ 4194304) (h3 : (n + 63) / 64 ≤ (len : Int)) (h4 : 0 ≤ m) (h5 : m ≤ (len : Int) - (n + 63) / 64) (h6 : 0 ≤ s) (h7 : s ≤ (len : Int) - (n + 63) / 64) (h8 : 0 ≤ t) (h9 : t ≤ (len : Int) - (n + 63) / 64)
    (h : apB m s ((n + 63) / 64) = false ∨ (apB m s ((n + 63) / 64) = true ∧ apB m t ((n + 63) / 64) = false) ∨ (apB m s ((n + 63) / 64) = true ∧ apB m t ((n + 63) / 64) = true ∧ apB s t ((n + 63) / 64) = false)) :
    Calls Try.prog 6 #[.slice a len cap, .bool mAll, .int .i64 m, .bool sAll, .int .i64 s, .bool tAll, .int .i64 t, .int .i64 n] w fun e w' => e = .returned (.bool true) ∧ Below w.heap.size w w' := by
  rcases h with h | ⟨h, h'⟩ | ⟨h, h', h''⟩
  · go_enter Try.func6, Try.ntmps6
    go_wp2_with fail
    refine (bytes17_any a len cap mAll sAll tAll m s t n _ (by omega)).mono ?_
    rintro e w1 ⟨⟨r, rfl⟩, rfl⟩
    cases r with
    | false =>
      go_wp2
      go_ret
      exact ⟨rfl, Below.refl _ _⟩
    | true =>
      go_wp2_with fail
      refine (apart_any _ _ _ _ (by omega) (by omega) (by omega) (by omega) (by omega) (by omega)).mono ?_
      rintro e w1 ⟨rfl, rfl⟩
      go_wp2
      go_ret
      exact ⟨rfl, Below.refl _ _⟩
  · go_enter Try.func6, Try.ntmps6
    go_wp2_with fail
    refine (bytes17_any a len cap mAll sAll tAll m s t n _ (by omega)).mono ?_
    rintro e w1 ⟨⟨r, rfl⟩, rfl⟩
    cases r with
    | false =>
      go_wp2
      go_ret
      exact ⟨rfl, Below.refl _ _⟩
    | true =>
      go_wp2_with fail
      refine (apart_any _ _ _ _ (by omega) (by omega) (by omega) (by omega) (by omega) (by omega)).mono ?_
      rintro e w1 ⟨rfl, rfl⟩
      go_wp2_with fail
      refine (apart_any _ _ _ _ (by omega) (by omega) (by omega) (by omega) (by omega) (by omega)).mono ?_
      rintro e w1 ⟨rfl, rfl⟩
      go_wp2
      go_ret
      exact ⟨rfl, Below.refl _ _⟩
  · go_enter Try.func6, Try.ntmps6
    go_wp2_with fail
    refine (bytes17_any a len cap mAll sAll tAll m s t n _ (by omega)).mono ?_
    rintro e w1 ⟨⟨r, rfl⟩, rfl⟩
    cases r with
    | false =>
      go_wp2
      go_ret
      exact ⟨rfl, Below.refl _ _⟩
    | true =>
      go_wp2_with fail
      refine (apart_any _ _ _ _ (by omega) (by omega) (by omega) (by omega) (by omega) (by omega)).mono ?_
      rintro e w1 ⟨rfl, rfl⟩
      go_wp2_with fail
      refine (apart_any _ _ _ _ (by omega) (by omega) (by omega) (by omega) (by omega) (by omega)).mono ?_
      rintro e w1 ⟨rfl, rfl⟩
      go_wp2_with fail
      refine (apart_any _ _ _ _ (by omega) (by omega) (by omega) (by omega) (by omega) (by omega)).mono ?_
      rintro e w1 ⟨rfl, rfl⟩
      go_wp2
      go_ret
      exact ⟨rfl, Below.refl _ _⟩
end Go.Proofs.Qxb6616441a
