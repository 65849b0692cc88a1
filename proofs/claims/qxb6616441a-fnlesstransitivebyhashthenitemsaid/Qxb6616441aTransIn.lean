import Derived.Test.Qxb6616441aStrictIn
namespace Go.Proofs.Qxb6616441a
open Go.RowKit

set_option maxRecDepth 20000 in
set_option maxHeartbeats 1600000 in
theorem trans_good (x0 x1 : Addr) (len0 cap0 len1 cap1 : Nat) (h o : Nat → Int) (i j k a b c : Nat) (w : World) (h0 : len0 ≤ 65536) (h1 : len1 ≤ 65536) (hi : i < len1) (hj : j < len1) (hk : k < len1)
    (hh : ∀ t, t < len0 → w.cell? (x0.add t) = some (.int .u64 (h t))) (ho : ∀ t, t < len1 → w.cell? (x1.add t) = some (.int .i64 (o t)))
    (ha : o i = a) (hb : o j = b) (hc : o k = c) (la : a < len0) (lb : b < len0) (lc : c < len0) :
    Calls Try.prog 4 #[.slice (some x0) len0 cap0, .slice (some x1) len1 cap1, .int .i64 i, .int .i64 j, .int .i64 k] w fun e w' => e = .returned (.bool true) ∧ Below w.heap.size w w' := by
  have hmk0 := run_make_row' (P := Try.prog) 22 34 (.int .u64 0) 8 Try.underlying22 Try.info34 rfl .i64 .i64 len0 (by omega) (by omega)
  have hmk1 := run_make_row' (P := Try.prog) 23 3 (.int .i64 0) 8 Try.underlying23 Try.info3 rfl .i64 .i64 len1 (by omega) (by omega)
  obtain ⟨w2, w3, hcp0, hcp1, hb3, hc0, hc1⟩ := two_clones x0 x1 len0 cap0 len1 cap1 h o w hh ho
  have hn22 := fun (wx : World) (a : Option Addr) (n c : Nat) => run_neq_slice_nil_any (P := Try.prog) wx 22 34 a n c 0 0 Try.underlying22
  have hn23 := fun (wx : World) (a : Option Addr) (n c : Nat) => run_neq_slice_nil_any (P := Try.prog) wx 23 3 a n c 0 0 Try.underlying23
  have ci := hc1 i hi
  have cj := hc1 j hj
  have ck := hc1 k hk
  rw [ha] at ci
  rw [hb] at cj
  rw [hc] at ck
  have HC : Hid (∀ t, t < len0 → w3.cell? ⟨w.heap.size, t, none⟩ = some (.int .u64 (h t))) := hc0
  clear hh ho ha hb hc hc1 hc0
  go_enter Try.func4, Try.ntmps4
  go_wp2_with fail
  refine (bytes11_any _ _ len0 cap0 len1 cap1 i j k _ (by omega) (by omega)).mono ?_
  rintro e w1 ⟨⟨r, rfl⟩, rfl⟩
  cases r with
  | false =>
    go_wp2
    go_ret
    exact ⟨rfl, Below.refl _ _⟩
  | true =>
    go_wp2_with fail
    refine (dup_any _ _ _ ⟨_, _, _, rfl⟩ ⟨_, _, _, rfl⟩).mono ?_
    rintro e w4 ⟨rfl, hw4⟩
    clear hcp0 hcp1 hmk0 hmk1 hn22 hn23
    have hb4 : Below w3.heap.size w3 w4 := by rw [hw4]; exact (Below.refl _ _).alloc (Nat.le_refl _) _
    have c1 : w4.cell? ⟨w3.heap.size, 1, none⟩ = some (.slice (some ⟨w1.heap.size, 0, none⟩) len0 len0) := by rw [hw4]; simp
    have c2 : w4.cell? ⟨w3.heap.size, 2, none⟩ = some (.slice (some ⟨w2.heap.size, 0, none⟩) len1 len1) := by rw [hw4]; simp
    have di : w4.cell? ⟨w2.heap.size, i, none⟩ = some (.int .i64 a) := (hb4.cell (World.block_lt_of_cell? (h := ci))).trans ci
    have dj : w4.cell? ⟨w2.heap.size, j, none⟩ = some (.int .i64 b) := (hb4.cell (World.block_lt_of_cell? (h := cj))).trans cj
    have dk : w4.cell? ⟨w2.heap.size, k, none⟩ = some (.int .i64 c) := (hb4.cell (World.block_lt_of_cell? (h := ck))).trans ck
    have hcc : ∀ t, t < len0 → w4.cell? ⟨w1.heap.size, t, none⟩ = some (.int .u64 (h t)) := fun t ht => (hb4.cell (World.block_lt_of_cell? (h := HC.out t ht))).trans (HC.out t ht)
    have HB : Below w1.heap.size w1 w4 := hb3.trans (hb4.mono hb3.size)
    have ca := hcc a la
    have cb := hcc b lb
    have cc := hcc c lc
    have HH : Hid (∀ t, t < len0 → w4.cell? ⟨w1.heap.size, t, none⟩ = some (.int .u64 (h t))) := hcc
    clear hw4 hb4 hb3 ci cj ck HC hcc
    go_wp2_with fail
    refine (less_any w3.heap.size w1.heap.size w2.heap.size len0 len1 len0 len1 h i j a b _ hi hj la lb (by exact c1) (by exact c2) (by exact di) (by exact dj) (by exact ca) (by exact cb)).mono ?_
    rintro e w5 ⟨rfl, q1, rfl⟩
    go_wp2_with fail
    refine (less_any w3.heap.size w1.heap.size w2.heap.size len0 len1 len0 len1 h j k b c _ hj hk lb lc (by exact c1) (by exact c2) (by exact dj) (by exact dk) (by exact cb) (by exact cc)).mono ?_
    rintro e w5 ⟨rfl, q2, rfl⟩
    go_wp2_with fail
    refine (less_any w3.heap.size w1.heap.size w2.heap.size len0 len1 len0 len1 h i k a c _ hi hk la lc (by exact c1) (by exact c2) (by exact di) (by exact dk) (by exact ca) (by exact cc)).mono ?_
    rintro e w5 ⟨rfl, q3, rfl⟩
    go_wp2_with fail
    refine (rank_any w1.heap.size len0 len0 h a _ h0 la (by exact HH.out)).mono ?_
    rintro e w5 ⟨rfl, q4, rfl⟩
    go_wp2_with fail
    refine (rank_any w1.heap.size len0 len0 h b _ h0 lb (by exact HH.out)).mono ?_
    rintro e w5 ⟨rfl, q5, rfl⟩
    go_wp2_with fail
    refine (rank_any w1.heap.size len0 len0 h c _ h0 lc (by exact HH.out)).mono ?_
    rintro e w5 ⟨rfl, q6, rfl⟩
    have HF : Below w1.heap.size w1 (w4.drewN (q1 + q2 + q3 + q4 + q5 + q6)) := below_drewN HB _
    have E1 := less_rank (h := h) la lb
    have E2 := less_rank (h := h) lb lc
    have E3 := less_rank (h := h) la lc
    generalize lessB h a b = l1 at *
    generalize lessB h b c = l2 at *
    generalize lessB h a c = l3 at *
    generalize rank h a len0 = ra at *
    generalize rank h b len0 = rb at *
    generalize rank h c len0 = rc at *
    clear HH c1 c2 di dj dk ca cb cc HB
    subst E1 E2 E3
    go_wp2
    all_goals go_ret
    all_goals exact ⟨ret_bool (by first | rfl | (simp; done) | (simp; omega)), HF⟩

set_option maxRecDepth 20000 in
set_option maxHeartbeats 1600000 in
theorem trans_nil (x1 : Addr) (len1 cap1 : Nat) (o : Nat → Int) (i j k : Nat) (w : World) (h1 : len1 ≤ 65536) (hi : i < len1) (hj : j < len1) (hk : k < len1)
    (ho : ∀ t, t < len1 → w.cell? (x1.add t) = some (.int .i64 (o t))) :
    Calls Try.prog 4 #[.slice none 0 0, .slice (some x1) len1 cap1, .int .i64 i, .int .i64 j, .int .i64 k] w fun e w' => e = .returned (.bool true) ∧ Below w.heap.size w w' := by
  have hmk1 := run_make_row' (P := Try.prog) 23 3 (.int .i64 0) 8 Try.underlying23 Try.info3 rfl .i64 .i64 len1 (by omega) (by omega)
  obtain ⟨w3, hcp1, hc1, hb1, hs1⟩ := clone_ok .i64 23 3 3 Try.underlying23 Try.size3 w x1 len1 cap1 o ho
  have hn22 := fun (wx : World) (a : Option Addr) (n c : Nat) => run_neq_slice_nil_any (P := Try.prog) wx 22 34 a n c 0 0 Try.underlying22
  have hn23 := fun (wx : World) (a : Option Addr) (n c : Nat) => run_neq_slice_nil_any (P := Try.prog) wx 23 3 a n c 0 0 Try.underlying23
  have ci := hc1 i hi
  have cj := hc1 j hj
  have ck := hc1 k hk
  clear hs1 ho hc1
  by_cases hneg : o i < 0
  all_goals
    go_enter Try.func4, Try.ntmps4
    go_wp2_with fail
    refine (bytes11_any _ _ 0 0 len1 cap1 i j k _ (by omega) (by omega)).mono ?_
    rintro e w1 ⟨⟨r, rfl⟩, rfl⟩
    cases r with
    | false =>
      go_wp2
      go_ret
      exact ⟨rfl, Below.refl _ _⟩
    | true =>
      go_wp2
      all_goals go_ret
      all_goals exact ⟨rfl, hb1⟩
end Go.Proofs.Qxb6616441a
