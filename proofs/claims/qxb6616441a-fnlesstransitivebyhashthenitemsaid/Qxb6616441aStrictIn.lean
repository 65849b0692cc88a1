import Derived.Test.Qxb6616441aStrictWalk
namespace Go.Proofs.Qxb6616441a
open Go.RowKit

/-- What the first part of the law leaves: the numbers in new memory. -/
theorem two_clones (x0 x1 : Addr) (len0 cap0 len1 cap1 : Nat) (h o : Nat → Int) (w : World)
    (hh : ∀ t, t < len0 → w.cell? (x0.add t) = some (.int .u64 (h t))) (ho : ∀ t, t < len1 → w.cell? (x1.add t) = some (.int .i64 (o t))) :
    ∃ w2 w3, (Builtin.copy_ #[22, 22] 3 #[.slice (some ⟨w.heap.size, 0, none⟩) len0 len0, .slice (some x0) len0 cap0]).run Try.prog (w.alloc (.cells (madeCells #[.int .u64 0] len0) 34)) = .ok (.int .i64 len0) w2 ∧
      (Builtin.copy_ #[23, 23] 3 #[.slice (some ⟨w2.heap.size, 0, none⟩) len1 len1, .slice (some x1) len1 cap1]).run Try.prog (w2.alloc (.cells (madeCells #[.int .i64 0] len1) 3)) = .ok (.int .i64 len1) w3 ∧
      Below w.heap.size w w3 ∧ (∀ t, t < len0 → w3.cell? ⟨w.heap.size, t, none⟩ = some (.int .u64 (h t))) ∧ (∀ t, t < len1 → w3.cell? ⟨w2.heap.size, t, none⟩ = some (.int .i64 (o t))) := by
  obtain ⟨w2, hcp0, hc0, hb0, hs0⟩ := clone_ok .u64 22 34 3 Try.underlying22 Try.size34 w x0 len0 cap0 h hh
  obtain ⟨w3, hcp1, hc1, hb1, hs1⟩ := clone_ok .i64 23 3 3 Try.underlying23 Try.size3 w2 x1 len1 cap1 o (fun t ht => (hb0.cell (World.block_lt_of_cell? (h := ho t ht))).trans (ho t ht))
  refine ⟨w2, w3, hcp0, hcp1, hb0.trans (hb1.mono hb0.size), fun t ht => ?_, hc1⟩
  rw [hb1.cell (p := ⟨w.heap.size, t, none⟩) (by show w.heap.size < w2.heap.size; omega)]
  exact hc0 t ht

theorem fin_other {r s a b : Nat} (h : ¬ r < s) (e : ¬ a = b) : (!decide (r < s) && ((a : Int) != (b : Int))) = true := by
  have e' : ¬ (a : Int) = (b : Int) := by omega
  simp [h, e']

set_option maxRecDepth 20000 in
set_option maxHeartbeats 1600000 in
theorem strict_good (x0 x1 : Addr) (len0 cap0 len1 cap1 : Nat) (h o : Nat → Int) (i j a b : Nat) (w : World) (h0 : len0 ≤ 65536) (h1 : len1 ≤ 65536) (hi : i < len1) (hj : j < len1)
    (hh : ∀ t, t < len0 → w.cell? (x0.add t) = some (.int .u64 (h t))) (ho : ∀ t, t < len1 → w.cell? (x1.add t) = some (.int .i64 (o t)))
    (ha : o i = a) (hb : o j = b) (la : a < len0) (lb : b < len0) :
    Calls Try.prog 3 #[.slice (some x0) len0 cap0, .slice (some x1) len1 cap1, .int .i64 i, .int .i64 j] w fun e w' => e = .returned (.bool true) ∧ Below w.heap.size w w' := by
  have hmk0 := run_make_row' (P := Try.prog) 22 34 (.int .u64 0) 8 Try.underlying22 Try.info34 rfl .i64 .i64 len0 (by omega) (by omega)
  have hmk1 := run_make_row' (P := Try.prog) 23 3 (.int .i64 0) 8 Try.underlying23 Try.info3 rfl .i64 .i64 len1 (by omega) (by omega)
  obtain ⟨w2, w3, hcp0, hcp1, hb3, hc0, hc1⟩ := two_clones x0 x1 len0 cap0 len1 cap1 h o w hh ho
  have hn22 := fun (wx : World) (a : Option Addr) (n c : Nat) => run_neq_slice_nil_any (P := Try.prog) wx 22 34 a n c 0 0 Try.underlying22
  have hn23 := fun (wx : World) (a : Option Addr) (n c : Nat) => run_neq_slice_nil_any (P := Try.prog) wx 23 3 a n c 0 0 Try.underlying23
  have ci := hc1 i hi
  have cj := hc1 j hj
  rw [ha] at ci
  rw [hb] at cj
  have HC : Hid (∀ t, t < len0 → w3.cell? ⟨w.heap.size, t, none⟩ = some (.int .u64 (h t))) := hc0
  clear hh ho ha hb hc1 hc0
  go_enter Try.func3, Try.ntmps3
  go_wp2_with fail
  refine (bytes7_any _ _ len0 cap0 len1 cap1 i j _ (by omega) (by omega)).mono ?_
  rintro e w1 ⟨⟨r, rfl⟩, rfl⟩
  cases r with
  | false =>
    go_wp2
    go_ret
    exact ⟨rfl, Below.refl _ _⟩
  | true =>
    go_wp2_with fail
    refine (dup_any _ _ _ ⟨_, _, _, rfl⟩ ⟨_, _, _, rfl⟩).mono ?_
    rintro e w4 ⟨rfl, hw4⟩
    clear hcp0 hcp1 hmk0 hmk1 hn22 hn23
    have hb4 : Below w3.heap.size w3 w4 := by rw [hw4]; exact (Below.refl _ _).alloc (Nat.le_refl _) _
    have c1 : w4.cell? ⟨w3.heap.size, 1, none⟩ = some (.slice (some ⟨w1.heap.size, 0, none⟩) len0 len0) := by rw [hw4]; simp
    have c2 : w4.cell? ⟨w3.heap.size, 2, none⟩ = some (.slice (some ⟨w2.heap.size, 0, none⟩) len1 len1) := by rw [hw4]; simp
    have di : w4.cell? ⟨w2.heap.size, i, none⟩ = some (.int .i64 a) := (hb4.cell (World.block_lt_of_cell? (h := ci))).trans ci
    have dj : w4.cell? ⟨w2.heap.size, j, none⟩ = some (.int .i64 b) := (hb4.cell (World.block_lt_of_cell? (h := cj))).trans cj
    have hc : ∀ t, t < len0 → w4.cell? ⟨w1.heap.size, t, none⟩ = some (.int .u64 (h t)) := fun t ht => (hb4.cell (World.block_lt_of_cell? (h := HC.out t ht))).trans (HC.out t ht)
    have HB : Below w1.heap.size w1 w4 := hb3.trans (hb4.mono hb3.size)
    have ca := hc a la
    have cb := hc b lb
    have HH : Hid (∀ t, t < len0 → w4.cell? ⟨w1.heap.size, t, none⟩ = some (.int .u64 (h t))) := hc
    clear hw4 hb4 hb3 ci cj HC hc
    go_wp2_with fail
    refine (less_any w3.heap.size w1.heap.size w2.heap.size len0 len1 len0 len1 h i j a b _ hi hj la lb (by exact c1) (by exact c2) (by exact di) (by exact dj) (by exact ca) (by exact cb)).mono ?_
    rintro e w5 ⟨rfl, q1, rfl⟩
    go_wp2_with fail
    refine (less_any w3.heap.size w1.heap.size w2.heap.size len0 len1 len0 len1 h j i b a _ hj hi lb la (by exact c1) (by exact c2) (by exact dj) (by exact di) (by exact cb) (by exact ca)).mono ?_
    rintro e w5 ⟨rfl, q2, rfl⟩
    go_wp2_with fail
    refine (rank_any w1.heap.size len0 len0 h a _ h0 la (by exact HH.out)).mono ?_
    rintro e w5 ⟨rfl, q3, rfl⟩
    go_wp2_with fail
    refine (rank_any w1.heap.size len0 len0 h b _ h0 lb (by exact HH.out)).mono ?_
    rintro e w5 ⟨rfl, q4, rfl⟩
    have HF : Below w1.heap.size w1 (w4.drewN (q1 + q2 + q3 + q4)) := below_drewN HB _
    have E1 := less_rank (h := h) la lb
    have E2 := less_rank (h := h) lb la
    clear HH c1 c2 di dj ca cb HB
    by_cases e : a = b
    · subst e
      have hl : lessB h a a = false := less_irrefl h a
      clear E1 E2
      go_wp2
      go_ret
      exact ⟨ret_bool (by simp), HF⟩
    · rcases less_total (h := h) e with hl | hl
      · have hr : rank h a len0 < rank h b len0 := (rank_mono hl len0).2 la
        have hl2 : lessB h b a = false := by rw [E2]; exact decide_eq_false (by omega)
        have hne : ((a : Int) == (b : Int)) = false := by simpa using by omega
        clear E1 E2
        go_wp2
        go_ret
        exact ⟨ret_bool (fin_other (by omega) e), HF⟩
      · have hr : rank h b len0 < rank h a len0 := (rank_mono hl len0).2 lb
        have hl2 : lessB h a b = false := by rw [E1]; exact decide_eq_false (by omega)
        have hne : ((a : Int) == (b : Int)) = false := by simpa using by omega
        clear E1 E2
        go_wp2
        go_ret
        exact ⟨ret_bool (fin_other (by omega) e), HF⟩

set_option maxRecDepth 20000 in
set_option maxHeartbeats 1600000 in
theorem strict_nil (x1 : Addr) (len1 cap1 : Nat) (o : Nat → Int) (i j : Nat) (w : World) (h1 : len1 ≤ 65536) (hi : i < len1) (hj : j < len1)
    (ho : ∀ t, t < len1 → w.cell? (x1.add t) = some (.int .i64 (o t))) :
    Calls Try.prog 3 #[.slice none 0 0, .slice (some x1) len1 cap1, .int .i64 i, .int .i64 j] w fun e w' => e = .returned (.bool true) ∧ Below w.heap.size w w' := by
  have hmk1 := run_make_row' (P := Try.prog) 23 3 (.int .i64 0) 8 Try.underlying23 Try.info3 rfl .i64 .i64 len1 (by omega) (by omega)
  obtain ⟨w3, hcp1, hc1, hb1, hs1⟩ := clone_ok .i64 23 3 3 Try.underlying23 Try.size3 w x1 len1 cap1 o ho
  have hn22 := fun (wx : World) (a : Option Addr) (n c : Nat) => run_neq_slice_nil_any (P := Try.prog) wx 22 34 a n c 0 0 Try.underlying22
  have hn23 := fun (wx : World) (a : Option Addr) (n c : Nat) => run_neq_slice_nil_any (P := Try.prog) wx 23 3 a n c 0 0 Try.underlying23
  have ci := hc1 i hi
  have cj := hc1 j hj
  clear hs1 ho hc1
  by_cases hneg : o i < 0
  all_goals
    go_enter Try.func3, Try.ntmps3
    go_wp2_with fail
    refine (bytes7_any _ _ 0 0 len1 cap1 i j _ (by omega) (by omega)).mono ?_
    rintro e w1 ⟨⟨r, rfl⟩, rfl⟩
    cases r with
    | false =>
      go_wp2
      go_ret
      exact ⟨rfl, Below.refl _ _⟩
    | true =>
      go_wp2
      all_goals go_ret
      all_goals exact ⟨rfl, hb1⟩

/-- WHAT THE WALK IS TOLD OF A SLICE OF INTEGERS THAT CAME IN: it is nil; or it leads to a row of 'cap' cells, the numbers 'zs' (the first 'len' are its elements, the rest its spare room), each fitting its kind. -/
def IsRow (k : IntKind) (w : World) (a : Option Addr) (len cap : Nat) (zs : List Int) : Prop :=
  (a = none ∧ len = 0 ∧ cap = 0 ∧ zs = []) ∨
  ∃ x, a = some x ∧ len ≤ cap ∧ cap ≤ maxLen ∧ zs.length = cap ∧ (∀ i, i < zs.length → w.cell? (x.add i) = some (.int k (zs.getD i 0))) ∧ ∀ n ∈ zs, (Lit.int k n).wf = true

theorem IsRow.len_le {k : IntKind} {w : World} {a : Option Addr} {len cap : Nat} {zs : List Int} (h : IsRow k w a len cap zs) : len ≤ 9223372036854775807 := by
  rcases h with ⟨_, rfl, _⟩ | ⟨x, _, h1, h2, _⟩
  · omega
  · unfold maxLen at h2; omega

theorem IsRow.cells {k : IntKind} {w : World} {a : Option Addr} {len cap : Nat} {zs : List Int} (h : IsRow k w a len cap zs) :
    (a = none ∧ len = 0 ∧ cap = 0) ∨ ∃ x, a = some x ∧ ∀ i, i < len → w.cell? (x.add i) = some (.int k (zs.getD i 0)) := by
  rcases h with ⟨rfl, rfl, rfl, _⟩ | ⟨x, rfl, h1, _, h3, h4, _⟩
  · exact .inl ⟨rfl, rfl, rfl⟩
  · exact .inr ⟨x, rfl, fun i hi => h4 i (by omega)⟩

theorem strict_walk (a0 : Option Addr) (len0 cap0 : Nat) (z0 : List Int) (a1 : Option Addr) (len1 cap1 : Nat) (z1 : List Int) (a2 : Int) (a3 : Int) (w : World) (w0 : IsRow .u64 w a0 len0 cap0 z0) (w1 : IsRow .i64 w a1 len1 cap1 z1) :
    Calls Try.prog 3 #[.slice a0 len0 cap0, .slice a1 len1 cap1, .int .i64 a2, .int .i64 a3] w fun e w' => e = .returned (.bool true) ∧ Below w.heap.size w w' := by
  by_cases hg : len0 ≤ 65536 ∧ len1 ≤ 65536 ∧ 0 ≤ a2 ∧ a2 < len1 ∧ 0 ≤ a3 ∧ a3 < len1
  · obtain ⟨g0, g1, i0, i1, j0, j1⟩ := hg
    obtain ⟨i, rfl⟩ := Int.eq_ofNat_of_zero_le i0
    obtain ⟨j, rfl⟩ := Int.eq_ofNat_of_zero_le j0
    have hi : i < len1 := by omega
    have hj : j < len1 := by omega
    rcases w1.cells with ⟨_, hz, _⟩ | ⟨x1, rfl, ho⟩
    · omega
    · rcases w0.cells with ⟨rfl, rfl, rfl⟩ | ⟨x0, rfl, hh⟩
      · exact strict_nil x1 len1 cap1 (fun t => z1.getD t 0) i j w g1 hi hj ho
      · by_cases hb : 0 ≤ z1.getD i 0 ∧ z1.getD i 0 < len0 ∧ 0 ≤ z1.getD j 0 ∧ z1.getD j 0 < len0
        · obtain ⟨p0, p1, r0, r1⟩ := hb
          obtain ⟨a, ha⟩ := Int.eq_ofNat_of_zero_le p0
          obtain ⟨b, hb⟩ := Int.eq_ofNat_of_zero_le r0
          exact strict_good x0 x1 len0 cap0 len1 cap1 (fun t => z0.getD t 0) (fun t => z1.getD t 0) i j a b w g0 g1 hi hj hh ho ha hb (by omega) (by omega)
        · exact strict_bad x0 x1 len0 cap0 len1 cap1 (fun t => z0.getD t 0) (fun t => z1.getD t 0) i j w g0 g1 hi hj hh ho (by show z1.getD i 0 < 0 ∨ (len0 : Int) ≤ z1.getD i 0 ∨ z1.getD j 0 < 0 ∨ (len0 : Int) ≤ z1.getD j 0; omega)
  · exact strict_out a0 a1 len0 cap0 len1 cap1 a2 a3 w w0.len_le w1.len_le (by omega)
end Go.Proofs.Qxb6616441a
