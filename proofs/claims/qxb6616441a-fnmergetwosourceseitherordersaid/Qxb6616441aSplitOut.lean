import Derived.Test.Qxb6616441aMergeCall
namespace Go.Proofs.Qxb6616441a
open Go.RowKit

set_option maxHeartbeats 400000 in
theorem zz_zero (a : Option Addr) (c : Nat) (mAll sAll : Bool) (w : World) :
    Calls Try.prog 15 #[.slice a 0 c, .bool mAll, .int .i64 0, .bool sAll, .int .i64 0, .int .i64 0] w fun e w' => e = .returned (.bool (mAll || sAll)) ∧ Below w.heap.size w w' := by
  cases hall : (mAll || sAll) with
  | true =>
    go_enter Try.func15, Try.ntmps15
    go_wp2_with fail
    refine (merge_set w.heap.size (w.heap.size + 1) (w.heap.size + 1 + 1) 0 mAll sAll _ (zz_cellM _ _ _ _ _ _ _ 0) (zz_cellF _ _ _ _ _ _ _ 0) (zz_freeM _ _ _ _ _ _ _ 0) hall).mono ?_
    rintro e w5 ⟨rfl, hw5⟩
    have d1 : w5.cell? ⟨w.heap.size + 1, 0, none⟩ = some (.bool true) := by rw [hw5]; exact World.cell?_setCell_same _ _ _ (u := .bool mAll) (zz_cellM _ _ _ _ _ _ _ 0)
    have HB : Below w.heap.size w w5 := by rw [hw5]; exact ((((Below.refl _ w).alloc (Nat.le_refl _) _).alloc (by simp) _).alloc (by simp; omega) _).setCell (by show w.heap.size ≤ w.heap.size + 1; omega) _
    clear hw5 hall
    go_wp2
    go_ret
    exact ⟨rfl, HB⟩
  | false =>
    obtain ⟨rfl, rfl⟩ : mAll = false ∧ sAll = false := by simpa using hall
    clear hall
    go_enter Try.func15, Try.ntmps15
    go_wp2_with fail
    refine (merge_none w.heap.size (w.heap.size + 1) (w.heap.size + 1 + 1) _ (zz_cellM _ _ _ _ _ _ _ 0) (zz_cellF _ _ _ _ _ _ _ 0) (zz_freeM _ _ _ _ _ _ _ 0)).mono ?_
    rintro e w5 ⟨rfl, hw5⟩
    have d1 : w5.cell? ⟨w.heap.size + 1, 0, none⟩ = some (.bool false) := by rw [hw5]; exact World.cell?_setCell_same _ _ _ (u := .bool false) (zz_cellM _ _ _ _ _ _ _ 0)
    have HB : Below w.heap.size w w5 := by rw [hw5]; exact ((((Below.refl _ w).alloc (Nat.le_refl _) _).alloc (by simp) _).alloc (by simp; omega) _).setCell (by show w.heap.size ≤ w.heap.size + 1; omega) _
    clear hw5
    go_wp2
    go_ret
    exact ⟨rfl, HB⟩

theorem zz_int (g N c : Nat) (mI sI nI : Int) (m s n W : Nat) (mAll sAll : Bool) (f : Nat → Nat) (w : World) (hf : ∀ i, f i < 18446744073709551616) (hrow : w.rowIs g 34 N (rowV f)) (em : mI = (m : Int)) (es : sI = (s : Int)) (en : nI = (n : Int)) (hn : n ≤ 4194304) (hW : ((n : Int) + 63) / 64 = (W : Int)) (hN : N ≤ 65536) (hm : m + W ≤ N) (hs : s + W ≤ N) :
    Calls Try.prog 15 #[.slice (some ⟨g, 0, none⟩) N c, .bool mAll, .int .i64 mI, .bool sAll, .int .i64 sI, .int .i64 nI] w fun e w' => e = .returned (.bool (mAll || sAll)) ∧ w'.rowIs g 34 N (rowV (stepN (mAll || sAll) f m s W)) ∧ w.grownBy w' (some g) := by
  subst em es en
  exact zz_any g N c m s n W mAll sAll f w hf hrow hn hW hN hm hs

set_option maxRecDepth 20000 in
set_option maxHeartbeats 1600000 in
theorem split_out1 (a : Option Addr) (len cap : Nat) (mAll sAll : Bool) (m s n cut : Int) (w : World) (h0 : len ≤ 9223372036854775807) (h : 65536 < len ∨ n < 0 ∨ 4194304 < n) :
    Calls Try.prog 5 #[.slice a len cap, .bool mAll, .int .i64 m, .bool sAll, .int .i64 s, .int .i64 n, .int .i64 cut] w fun e w' => e = .returned (.bool true) ∧ Below w.heap.size w w' := by
  rcases h with h | h | h
  all_goals
    go_enter Try.func5, Try.ntmps5
    go_wp2_with fail
    refine (bytes12_any a len cap mAll sAll m s n cut _ h0).mono ?_
    rintro e w1 ⟨⟨r, rfl⟩, rfl⟩
    cases r
    all_goals go_wp2
    all_goals go_ret
    all_goals exact ⟨rfl, Below.refl _ _⟩

set_option maxRecDepth 20000 in
set_option maxHeartbeats 1600000 in
theorem split_out2 (a : Option Addr) (len cap : Nat) (mAll sAll : Bool) (m s n cut : Int) (w : World) (h0 : len ≤ 65536) (h1 : 0 ≤ n) (h2 : n ≤ 4194304) (h : (len : Int) < (n + 63) / 64 ∨ m < 0 ∨ (len : Int) - (n + 63) / 64 < m ∨ s < 0 ∨ (len : Int) - (n + 63) / 64 < s) :
    Calls Try.prog 5 #[.slice a len cap, .bool mAll, .int .i64 m, .bool sAll, .int .i64 s, .int .i64 n, .int .i64 cut] w fun e w' => e = .returned (.bool true) ∧ Below w.heap.size w w' := by
  rcases h with h | h | h | h | h
  all_goals
    go_enter Try.func5, Try.ntmps5
    go_wp2_with fail
    refine (bytes12_any a len cap mAll sAll m s n cut _ (by omega)).mono ?_
    rintro e w1 ⟨⟨r, rfl⟩, rfl⟩
    cases r
    all_goals go_wp2
    all_goals go_ret
    all_goals exact ⟨rfl, Below.refl _ _⟩

set_option maxRecDepth 20000 in
set_option maxHeartbeats 1600000 in
theorem split_out3 (a : Option Addr) (len cap : Nat) (mAll sAll : Bool) (m s n cut : Int) (w : World) (h0 : len ≤ 65536) (h1 : 0 ≤ n) (h2 : n ≤ 4194304) (h3 : (n + 63) / 64 ≤ (len : Int)) (h4 : 0 ≤ m) (h5 : m ≤ (len : Int) - (n + 63) / 64) (h6 : 0 ≤ s) (h7 : s ≤ (len : Int) - (n + 63) / 64)
    (h : apB m s ((n + 63) / 64) = false ∨ (apB m s ((n + 63) / 64) = true ∧ (cut < 0 ∨ (n + 63) / 64 < cut))) :
    Calls Try.prog 5 #[.slice a len cap, .bool mAll, .int .i64 m, .bool sAll, .int .i64 s, .int .i64 n, .int .i64 cut] w fun e w' => e = .returned (.bool true) ∧ Below w.heap.size w w' := by
  rcases h with h | ⟨h, h' | h'⟩
  all_goals
    go_enter Try.func5, Try.ntmps5
    go_wp2_with fail
    refine (bytes12_any a len cap mAll sAll m s n cut _ (by omega)).mono ?_
    rintro e w1 ⟨⟨r, rfl⟩, rfl⟩
    cases r with
    | false =>
      go_wp2
      go_ret
      exact ⟨rfl, Below.refl _ _⟩
    | true =>
      go_wp2_with fail
      refine (apart_any _ _ _ _ (by omega) (by omega) (by omega) (by omega) (by omega) (by omega)).mono ?_
      rintro e w1 ⟨rfl, rfl⟩
      go_wp2
      go_ret
      exact ⟨rfl, Below.refl _ _⟩
end Go.Proofs.Qxb6616441a
