import Derived.Test.Qxb6616441aStrictIn
namespace Go.Proofs.Qxb6616441a
open Go.RowKit

set_option maxRecDepth 20000 in
set_option maxHeartbeats 1600000 in
theorem trans_out (a0 a1 : Option Addr) (len0 cap0 len1 cap1 : Nat) (i j k : Int) (w : World) (h0 : len0 ≤ 9223372036854775807) (h1 : len1 ≤ 9223372036854775807)
    (h : 65536 < len0 ∨ 65536 < len1 ∨ i < 0 ∨ (len1 : Int) ≤ i ∨ j < 0 ∨ (len1 : Int) ≤ j ∨ k < 0 ∨ (len1 : Int) ≤ k) :
    Calls Try.prog 4 #[.slice a0 len0 cap0, .slice a1 len1 cap1, .int .i64 i, .int .i64 j, .int .i64 k] w fun e w' => e = .returned (.bool true) ∧ Below w.heap.size w w' := by
  rcases h with h | h | h | h | h | h | h | h
  all_goals
    go_enter Try.func4, Try.ntmps4
    go_wp2_with fail
    refine (bytes11_any a0 a1 len0 cap0 len1 cap1 i j k _ h0 h1).mono ?_
    rintro e w1 ⟨⟨r, rfl⟩, rfl⟩
    cases r
    all_goals go_wp2
    all_goals go_ret
    all_goals exact ⟨rfl, Below.refl _ _⟩

set_option maxRecDepth 20000 in
set_option maxHeartbeats 1600000 in
theorem trans_bad (x0 x1 : Addr) (len0 cap0 len1 cap1 : Nat) (h o : Nat → Int) (i j k : Nat) (w : World) (h0 : len0 ≤ 65536) (h1 : len1 ≤ 65536) (hi : i < len1) (hj : j < len1) (hk : k < len1)
    (hh : ∀ t, t < len0 → w.cell? (x0.add t) = some (.int .u64 (h t))) (ho : ∀ t, t < len1 → w.cell? (x1.add t) = some (.int .i64 (o t)))
    (hbad : o i < 0 ∨ (len0 : Int) ≤ o i ∨ o j < 0 ∨ (len0 : Int) ≤ o j ∨ o k < 0 ∨ (len0 : Int) ≤ o k) :
    Calls Try.prog 4 #[.slice (some x0) len0 cap0, .slice (some x1) len1 cap1, .int .i64 i, .int .i64 j, .int .i64 k] w fun e w' => e = .returned (.bool true) ∧ Below w.heap.size w w' := by
  have hmk0 := run_make_row' (P := Try.prog) 22 34 (.int .u64 0) 8 Try.underlying22 Try.info34 rfl .i64 .i64 len0 (by omega) (by omega)
  have hmk1 := run_make_row' (P := Try.prog) 23 3 (.int .i64 0) 8 Try.underlying23 Try.info3 rfl .i64 .i64 len1 (by omega) (by omega)
  obtain ⟨w2, w3, hcp0, hcp1, HB, hc0, hc1⟩ := two_clones x0 x1 len0 cap0 len1 cap1 h o w hh ho
  have hn22 := fun (wx : World) (a : Option Addr) (n c : Nat) => run_neq_slice_nil_any (P := Try.prog) wx 22 34 a n c 0 0 Try.underlying22
  have hn23 := fun (wx : World) (a : Option Addr) (n c : Nat) => run_neq_slice_nil_any (P := Try.prog) wx 23 3 a n c 0 0 Try.underlying23
  have ci := hc1 i hi
  have cj := hc1 j hj
  have ck := hc1 k hk
  clear hh ho hc0 hc1
  rcases hbad with h | h | h | h | h | h
  all_goals
    go_enter Try.func4, Try.ntmps4
    go_wp2_with fail
    refine (bytes11_any _ _ len0 cap0 len1 cap1 i j k _ (by omega) (by omega)).mono ?_
    rintro e w1 ⟨⟨r, rfl⟩, rfl⟩
    cases r with
    | false =>
      go_wp2
      go_ret
      exact ⟨rfl, Below.refl _ _⟩
    | true =>
      go_wp2
      all_goals go_ret
      all_goals exact ⟨rfl, HB⟩
end Go.Proofs.Qxb6616441a
