import Derived.Test.Qxb6616441aSplitOut
namespace Go.Proofs.Qxb6616441a
open Go.RowKit

theorem row_below' {w w' : World} {B g N : Nat} {f : Nat → Value} (h : w.rowIs g 34 N f) (hb : Below B w w') (hg : g < B) : w'.rowIs g 34 N f := h.of_block (hb.block g hg)
theorem row_grown' {w w' : World} {g0 g N : Nat} {f : Nat → Value} (h : w.rowIs g 34 N f) (hb : w.grownBy w' (some g0)) (hg : g ≠ g0) : w'.rowIs g 34 N f := h.of_block (hb.block g h.lt (by simpa using hg))
theorem below_grown' {w w1 w2 : World} {g : Nat} (h : Below w.heap.size w w1) (hg : w1.grownBy w2 (some g)) (hle : w.heap.size ≤ g) : Below w.heap.size w w2 :=
  h.grown hg h.size (fun k e => by cases e; exact hle)
theorem rowV_congr' {f g : Nat → Nat} (h : ∀ i, f i = g i) (i : Nat) : rowV f i = rowV g i := by
  show Value.int .u64 (f i : Int) = Value.int .u64 (g i : Int)
  rw [h i]

/-- The word that the law lays at place k, as the walk writes it. -/
def wantI (f : Nat → Nat) (m s t : Nat) (one two : Bool) (k : Nat) : Int :=
  if two then (if one then (f (m + k) : Int) else bits .or .u64 (f (m + k) : Int) (f (s + k) : Int))
  else bits .or .u64 (if one then (f (m + k) : Int) else bits .or .u64 (f (m + k) : Int) (f (s + k) : Int)) (f (t + k) : Int)

theorem wantI_eq {f : Nat → Nat} {m s t : Nat} {one two : Bool} {k : Nat} (hf : ∀ i, f i < 18446744073709551616) : wantI f m s t one two k = (wantAt f m s t one two k : Int) := by
  unfold wantI wantAt
  cases one <;> cases two <;> simp only [Bool.false_eq_true, if_false, if_true]
  · rw [u64_or _ _ (hf _) (hf _), u64_or _ _ (or_lt (hf _) (hf _)) (hf _)]
  · rw [u64_or _ _ (hf _) (hf _)]
  · rw [u64_or _ _ (hf _) (hf _)]

theorem row_want {wr : World} {g N : Nat} {f : Nat → Nat} {m s t : Nat} {one two : Bool} {k : Nat} (hf : ∀ i, f i < 18446744073709551616) (h : wr.rowIs g 34 N (rowV (wantN f m s t one two k))) :
    (wr.setCell ⟨g, m + k, none⟩ (.int .u64 (wantI f m s t one two k))).rowIs g 34 N (rowV (wantN f m s t one two (k + 1))) :=
  (h.set (m + k) (.int .u64 (wantI f m s t one two k))).congr (fun i _ => by
    rw [wantI_eq hf]
    show (if i = m + k then _ else Value.int .u64 (wantN f m s t one two k i : Int)) = Value.int .u64 ((wantN f m s t one two (k + 1) i : Nat) : Int)
    rw [wantN_step]
    by_cases ei : i = m + k
    · rw [if_pos ei, if_pos ei]
    · rw [if_neg ei, if_neg ei])

theorem rel_step {wr : World} {gA gB N : Nat} {f : Nat → Nat} {m s t : Nat} {o1 o2 o3 o4 : Bool} {k : Nat} (hf : ∀ i, f i < 18446744073709551616) (hne : gA ≠ gB)
    (hA : wr.rowIs gA 34 N (rowV (wantN f m s t o1 o2 k))) (hB : wr.rowIs gB 34 N (rowV (wantN f m t s o3 o4 k))) :
    ((wr.setCell ⟨gA, m + k, none⟩ (.int .u64 (wantI f m s t o1 o2 k))).setCell ⟨gB, m + k, none⟩ (.int .u64 (wantI f m t s o3 o4 k))).rowIs gA 34 N (rowV (wantN f m s t o1 o2 (k + 1))) ∧
    ((wr.setCell ⟨gA, m + k, none⟩ (.int .u64 (wantI f m s t o1 o2 k))).setCell ⟨gB, m + k, none⟩ (.int .u64 (wantI f m t s o3 o4 k))).rowIs gB 34 N (rowV (wantN f m t s o3 o4 (k + 1))) :=
  ⟨(row_want hf hA).setOther hne _, row_want hf (hB.setOther (fun h => hne h.symm) _)⟩

theorem again_eq {f : Nat → Nat} {m s t W : Nat} (a b c : Bool) (ha : Apart m s W) (hb : Apart m t W) (i : Nat) :
    stepN (a || b || c || b) (fun i => stepN (a || b || c) (fun i => stepN (a || b) f m s W i) m t W i) m s W i = wantN f m s t (a || b) (a || b || c) W i := by
  have h1 := once_more (f := f) (one := a || b) (two := a || b || c) (by cases a <;> cases b <;> simp) ha hb i
  have h2 := two_merges (f := f) (one := a || b) (two := a || b || c) ha hb i
  have e : (a || b || c || b) = (a || b || c) := by cases a <;> cases b <;> cases c <;> rfl
  rw [e]
  exact h1.trans h2

set_option maxRecDepth 20000 in
set_option maxHeartbeats 6400000 in
theorem either_in (b off N cap : Nat) (mAll sAll tAll : Bool) (m s t n W : Nat) (f : Nat → Nat) (w : World) (hf : ∀ i, f i < 18446744073709551616)
    (hc : ∀ i, i < N → w.cell? ⟨b, off + i, none⟩ = some (.int .u64 (f i : Int))) (hb : b < w.heap.size) (hN : N ≤ 65536) (hn : n ≤ 4194304) (hW : ((n : Int) + 63) / 64 = (W : Int))
    (hm : m + W ≤ N) (hs : s + W ≤ N) (ht : t + W ≤ N) (hap1 : apB m s W = true) (hap2 : apB m t W = true) (hap3 : apB s t W = true) :
    Calls Try.prog 6 #[.slice (some ⟨b, off, none⟩) N cap, .bool mAll, .int .i64 m, .bool sAll, .int .i64 s, .bool tAll, .int .i64 t, .int .i64 n] w fun e w' => e = .returned (.bool true) ∧ Below w.heap.size w w' := by
  have A1 : Hid (Apart m s W) := by
    have h := (apB_iff _ _ _).1 hap1
    show m = s ∨ m + W ≤ s ∨ s + W ≤ m
    omega
  have A2 : Hid (Apart m t W) := by
    have h := (apB_iff _ _ _).1 hap2
    show m = t ∨ m + W ≤ t ∨ t + W ≤ m
    omega
  go_enter Try.func6, Try.ntmps6
  go_wp2_with fail
  refine (bytes17_any _ N cap mAll sAll tAll m s t n _ (by omega)).mono ?_
  rintro e w0 ⟨⟨r, rfl⟩, rfl⟩
  cases r with
  | false =>
    go_wp2
    go_ret
    exact ⟨rfl, Below.refl _ _⟩
  | true =>
    go_wp2_with fail
    refine (apart_any _ _ _ _ (by omega) (by omega) (by omega) (by omega) (by omega) (by omega)).mono ?_
    rintro e w1 ⟨rfl, rfl⟩
    go_wp2_with fail
    refine (apart_any _ _ _ _ (by omega) (by omega) (by omega) (by omega) (by omega) (by omega)).mono ?_
    rintro e w1 ⟨rfl, rfl⟩
    go_wp2_with fail
    refine (apart_any _ _ _ _ (by omega) (by omega) (by omega) (by omega) (by omega) (by omega)).mono ?_
    rintro e w1 ⟨rfl, rfl⟩
    -- ab
    go_wp2_with fail
    refine (clone_pos b off N cap f _ hN hc hb).mono ?_
    rintro e w2 ⟨rfl, r2, b2⟩
    go_wp2_with fail
    refine (zz_int w1.heap.size N N _ _ _ m s n W mAll sAll f _ hf r2 rfl rfl rfl hn hW hN hm hs).mono ?_
    rintro e w3 ⟨rfl, r3, g3⟩
    have B3 : Below w1.heap.size w1 w3 := below_grown' b2 g3 (Nat.le_refl _)
    clear r2 b2 g3
    go_wp2_with fail
    refine (zz_int w1.heap.size N N _ _ _ m t n W _ tAll _ _ (fun i => stepN_lt hf i) r3 rfl rfl rfl hn hW hN hm ht).mono ?_
    rintro e w4 ⟨rfl, r4, g4⟩
    have B4 : Below w1.heap.size w1 w4 := below_grown' B3 g4 (Nat.le_refl _)
    have l4 := r4.lt
    clear r3 g4 B3
    -- ba
    go_wp2_with fail
    refine (clone_pos b off N cap f _ hN (fun i hi => (B4.cell (p := ⟨b, off + i, none⟩) hb).trans (hc i hi)) (Nat.lt_of_lt_of_le hb B4.size)).mono ?_
    rintro e w5 ⟨rfl, r5, b5⟩
    have R5 := row_below' r4 b5 l4
    have B5 : Below w1.heap.size w1 w5 := B4.trans (b5.mono B4.size)
    clear r4 b5 B4
    go_wp2_with fail
    refine (zz_int w4.heap.size N N _ _ _ m t n W mAll tAll f _ hf r5 rfl rfl rfl hn hW hN hm ht).mono ?_
    rintro e w6 ⟨rfl, r6, g6⟩
    have R6 := row_grown' R5 g6 (by omega)
    have B6 : Below w1.heap.size w1 w6 := below_grown' B5 g6 (by omega)
    clear r5 R5 g6 B5
    go_wp2_with fail
    refine (zz_int w4.heap.size N N _ _ _ m s n W _ sAll _ _ (fun i => stepN_lt hf i) r6 rfl rfl rfl hn hW hN hm hs).mono ?_
    rintro e w7 ⟨rfl, r7, g7⟩
    have R7 := row_grown' R6 g7 (by omega)
    have B7 : Below w1.heap.size w1 w7 := below_grown' B6 g7 (by omega)
    have l7 := r7.lt
    clear r6 R6 g7 B6
    -- again
    go_wp2_with fail
    refine (clone_pos w1.heap.size 0 N N _ _ hN (fun i hi => by rw [Nat.zero_add]; exact R7.cell hi) R7.lt).mono ?_
    rintro e w8 ⟨rfl, r8, b8⟩
    have R8 := row_below' R7 b8 R7.lt
    have Q8 := row_below' r7 b8 l7
    have B8 : Below w1.heap.size w1 w8 := B7.trans (b8.mono B7.size)
    have l8 := r8.lt
    clear r7 R7 b8 B7
    go_wp2_with fail
    refine (zz_int w7.heap.size N N _ _ _ m s n W _ sAll _ _ (fun i => stepN_lt (fun i => stepN_lt hf i) i) r8 rfl rfl rfl hn hW hN hm hs).mono ?_
    rintro e w9 ⟨rfl, r9, g9⟩
    have R9 := row_grown' R8 g9 (by omega)
    have Q9 := row_grown' Q8 g9 (by omega)
    have B9 : Below w1.heap.size w1 w9 := below_grown' B8 g9 (by omega)
    have l9 := r9.lt
    clear r8 R8 Q8 g9 B8
    have P1 : w9.rowIs w1.heap.size 34 N (rowV (wantN f m s t (mAll || sAll) (mAll || sAll || tAll) W)) := R9.congr (fun i _ => rowV_congr' (fun i => two_merges A1.out A2.out i) i)
    have P2 : w9.rowIs w4.heap.size 34 N (rowV (wantN f m t s (mAll || tAll) (mAll || tAll || sAll) W)) := Q9.congr (fun i _ => rowV_congr' (fun i => two_merges A2.out A1.out i) i)
    have P3 : w9.rowIs w7.heap.size 34 N (rowV (wantN f m s t (mAll || sAll) (mAll || sAll || tAll) W)) := r9.congr (fun i _ => rowV_congr' (fun i => again_eq mAll sAll tAll A1.out A2.out i) i)
    clear R9 Q9 r9 hap1 hap2 hap3
    cases mAll <;> cases sAll <;> cases tAll
    · go_wp2_with fail
      refine (clone_pos b off N cap f _ hN (fun i hi => (B9.cell (p := ⟨b, off + i, none⟩) hb).trans (hc i hi)) (Nat.lt_of_lt_of_le hb B9.size)).mono ?_
      rintro e w10 ⟨rfl, r10, b10⟩
      have B10 : Below w1.heap.size w1 w10 := B9.trans (b10.mono B9.size)
      have l10 := r10.lt
      go_wp2_with fail
      refine (clone_pos b off N cap f _ hN (fun i hi => (B10.cell (p := ⟨b, off + i, none⟩) hb).trans (hc i hi)) (Nat.lt_of_lt_of_le hb B10.size)).mono ?_
      rintro e w11 ⟨rfl, r11, b11⟩
      have r10' := row_below' r10 b11 l10
      have C11 : Below w9.heap.size w9 w11 := b10.trans (b11.mono b10.size)
      clear b10 b11 r10 B10
      go_wp2_with fail
      go_loopw [27] (fun i wr => ∃ k : Nat, k ≤ W ∧ i = .int .i64 k ∧ wr.rowIs w9.heap.size 34 N (rowV (wantN f m s t (false || false) (false || false || false) k)) ∧ wr.rowIs w10.heap.size 34 N (rowV (wantN f m t s (false || false) (false || false || false) k)) ∧ Below w9.heap.size w9 wr) (fun i _ => W - (intOf i).toNat)
      case atStart => exact ⟨0, Nat.zero_le _, rfl, r10'.congr (fun i _ => rowV_congr' (fun i => (wantN_zero _ _ _ _ _ _ i).symm) i), r11.congr (fun i _ => rowV_congr' (fun i => (wantN_zero _ _ _ _ _ _ i).symm) i), C11⟩
      case round =>
        obtain ⟨k, hk, rfl, hA, hB, hbel⟩ := hrel
        have Bk : Below w1.heap.size w1 wr := B9.trans (hbel.mono B9.size)
        by_cases hlt : k < W
        · have b7 : wr.cell? ⟨b, off + (m + k), none⟩ = some (.int .u64 (f (m + k) : Int)) := (Bk.cell (p := ⟨b, off + (m + k), none⟩) hb).trans (hc _ (by omega))
          have b8 : wr.cell? ⟨b, off + (s + k), none⟩ = some (.int .u64 (f (s + k) : Int)) := (Bk.cell (p := ⟨b, off + (s + k), none⟩) hb).trans (hc _ (by omega))
          have b9 : wr.cell? ⟨b, off + (t + k), none⟩ = some (.int .u64 (f (t + k) : Int)) := (Bk.cell (p := ⟨b, off + (t + k), none⟩) hb).trans (hc _ (by omega))
          obtain ⟨v0, b5⟩ : ∃ v0, wr.cell? ⟨w9.heap.size, m + k, none⟩ = some v0 := ⟨_, hA.cell (by omega)⟩
          obtain ⟨v1, b4⟩ : ∃ v1, wr.cell? ⟨w10.heap.size, m + k, none⟩ = some v1 := ⟨_, hB.cell (by omega)⟩
          have b3 : wr.frozen? ⟨w9.heap.size, m + k, none⟩ = false := hA.frozen _
          have b2 : wr.frozen? ⟨w10.heap.size, m + k, none⟩ = false := hB.frozen _
          have hne : w9.heap.size ≠ w10.heap.size := by omega
          have R := (show Hid _ from rel_step hf hne hA hB)
          have S : Hid (∀ x y, Below w9.heap.size w9 ((wr.setCell ⟨w9.heap.size, m + k, none⟩ x).setCell ⟨w10.heap.size, m + k, none⟩ y)) := fun x y => (hbel.setCell (Nat.le_refl _) _).setCell (by show w9.heap.size ≤ w10.heap.size; omega) _
          clear hA hB hbel Bk
          go_wp2
          go_roundw
          case rel => exact ⟨k + 1, by omega, by go_num, R.out.1, R.out.2, S.out _ _⟩
          case measure => simp [intOf]; omega
        · have hkW : k = W := by omega
          have Q1 := row_below' P1 hbel (by omega)
          have Q2 := row_below' P2 hbel (by omega)
          have Q3 := row_below' P3 hbel (by omega)
          rw [hkW] at hA hB
          clear hkW P1 P2 P3 r10' r11 C11 hbel
          go_wp2_with fail
          refine (eq_any w1.heap.size w9.heap.size N N N _ _ _ hN Q1 hA (fun i _ => rfl)).mono ?_
          rintro e w12 ⟨rfl, q1, rfl⟩
          go_wp2_with fail
          refine (eq_any w4.heap.size w10.heap.size N N N _ _ _ hN (by exact Q2) (by exact hB) (fun i _ => rfl)).mono ?_
          rintro e w12 ⟨rfl, q2, rfl⟩
          go_wp2_with fail
          refine (eq_any w7.heap.size w1.heap.size N N N _ _ _ hN (by exact Q3) (by exact Q1) (fun i _ => rfl)).mono ?_
          rintro e w12 ⟨rfl, q3, rfl⟩
          go_wp2
          go_ret
          exact ⟨rfl, below_drewN Bk (q1 + q2 + q3)⟩
    · go_wp2_with fail
      refine (clone_pos b off N cap f _ hN (fun i hi => (B9.cell (p := ⟨b, off + i, none⟩) hb).trans (hc i hi)) (Nat.lt_of_lt_of_le hb B9.size)).mono ?_
      rintro e w10 ⟨rfl, r10, b10⟩
      have B10 : Below w1.heap.size w1 w10 := B9.trans (b10.mono B9.size)
      have l10 := r10.lt
      go_wp2_with fail
      refine (clone_pos b off N cap f _ hN (fun i hi => (B10.cell (p := ⟨b, off + i, none⟩) hb).trans (hc i hi)) (Nat.lt_of_lt_of_le hb B10.size)).mono ?_
      rintro e w11 ⟨rfl, r11, b11⟩
      have r10' := row_below' r10 b11 l10
      have C11 : Below w9.heap.size w9 w11 := b10.trans (b11.mono b10.size)
      clear b10 b11 r10 B10
      go_wp2_with fail
      go_loopw [27] (fun i wr => ∃ k : Nat, k ≤ W ∧ i = .int .i64 k ∧ wr.rowIs w9.heap.size 34 N (rowV (wantN f m s t (false || false) (false || false || true) k)) ∧ wr.rowIs w10.heap.size 34 N (rowV (wantN f m t s (false || true) (false || true || false) k)) ∧ Below w9.heap.size w9 wr) (fun i _ => W - (intOf i).toNat)
      case atStart => exact ⟨0, Nat.zero_le _, rfl, r10'.congr (fun i _ => rowV_congr' (fun i => (wantN_zero _ _ _ _ _ _ i).symm) i), r11.congr (fun i _ => rowV_congr' (fun i => (wantN_zero _ _ _ _ _ _ i).symm) i), C11⟩
      case round =>
        obtain ⟨k, hk, rfl, hA, hB, hbel⟩ := hrel
        have Bk : Below w1.heap.size w1 wr := B9.trans (hbel.mono B9.size)
        by_cases hlt : k < W
        · have b7 : wr.cell? ⟨b, off + (m + k), none⟩ = some (.int .u64 (f (m + k) : Int)) := (Bk.cell (p := ⟨b, off + (m + k), none⟩) hb).trans (hc _ (by omega))
          have b8 : wr.cell? ⟨b, off + (s + k), none⟩ = some (.int .u64 (f (s + k) : Int)) := (Bk.cell (p := ⟨b, off + (s + k), none⟩) hb).trans (hc _ (by omega))
          have b9 : wr.cell? ⟨b, off + (t + k), none⟩ = some (.int .u64 (f (t + k) : Int)) := (Bk.cell (p := ⟨b, off + (t + k), none⟩) hb).trans (hc _ (by omega))
          obtain ⟨v0, b5⟩ : ∃ v0, wr.cell? ⟨w9.heap.size, m + k, none⟩ = some v0 := ⟨_, hA.cell (by omega)⟩
          obtain ⟨v1, b4⟩ : ∃ v1, wr.cell? ⟨w10.heap.size, m + k, none⟩ = some v1 := ⟨_, hB.cell (by omega)⟩
          have b3 : wr.frozen? ⟨w9.heap.size, m + k, none⟩ = false := hA.frozen _
          have b2 : wr.frozen? ⟨w10.heap.size, m + k, none⟩ = false := hB.frozen _
          have hne : w9.heap.size ≠ w10.heap.size := by omega
          have R := (show Hid _ from rel_step hf hne hA hB)
          have S : Hid (∀ x y, Below w9.heap.size w9 ((wr.setCell ⟨w9.heap.size, m + k, none⟩ x).setCell ⟨w10.heap.size, m + k, none⟩ y)) := fun x y => (hbel.setCell (Nat.le_refl _) _).setCell (by show w9.heap.size ≤ w10.heap.size; omega) _
          clear hA hB hbel Bk
          go_wp2
          go_roundw
          case rel => exact ⟨k + 1, by omega, by go_num, R.out.1, R.out.2, S.out _ _⟩
          case measure => simp [intOf]; omega
        · have hkW : k = W := by omega
          have Q1 := row_below' P1 hbel (by omega)
          have Q2 := row_below' P2 hbel (by omega)
          have Q3 := row_below' P3 hbel (by omega)
          rw [hkW] at hA hB
          clear hkW P1 P2 P3 r10' r11 C11 hbel
          go_wp2_with fail
          refine (eq_any w1.heap.size w9.heap.size N N N _ _ _ hN Q1 hA (fun i _ => rfl)).mono ?_
          rintro e w12 ⟨rfl, q1, rfl⟩
          go_wp2_with fail
          refine (eq_any w4.heap.size w10.heap.size N N N _ _ _ hN (by exact Q2) (by exact hB) (fun i _ => rfl)).mono ?_
          rintro e w12 ⟨rfl, q2, rfl⟩
          go_wp2_with fail
          refine (eq_any w7.heap.size w1.heap.size N N N _ _ _ hN (by exact Q3) (by exact Q1) (fun i _ => rfl)).mono ?_
          rintro e w12 ⟨rfl, q3, rfl⟩
          go_wp2
          go_ret
          exact ⟨rfl, below_drewN Bk (q1 + q2 + q3)⟩
    · go_wp2_with fail
      refine (clone_pos b off N cap f _ hN (fun i hi => (B9.cell (p := ⟨b, off + i, none⟩) hb).trans (hc i hi)) (Nat.lt_of_lt_of_le hb B9.size)).mono ?_
      rintro e w10 ⟨rfl, r10, b10⟩
      have B10 : Below w1.heap.size w1 w10 := B9.trans (b10.mono B9.size)
      have l10 := r10.lt
      go_wp2_with fail
      refine (clone_pos b off N cap f _ hN (fun i hi => (B10.cell (p := ⟨b, off + i, none⟩) hb).trans (hc i hi)) (Nat.lt_of_lt_of_le hb B10.size)).mono ?_
      rintro e w11 ⟨rfl, r11, b11⟩
      have r10' := row_below' r10 b11 l10
      have C11 : Below w9.heap.size w9 w11 := b10.trans (b11.mono b10.size)
      clear b10 b11 r10 B10
      go_wp2_with fail
      go_loopw [27] (fun i wr => ∃ k : Nat, k ≤ W ∧ i = .int .i64 k ∧ wr.rowIs w9.heap.size 34 N (rowV (wantN f m s t (false || true) (false || true || false) k)) ∧ wr.rowIs w10.heap.size 34 N (rowV (wantN f m t s (false || false) (false || false || true) k)) ∧ Below w9.heap.size w9 wr) (fun i _ => W - (intOf i).toNat)
      case atStart => exact ⟨0, Nat.zero_le _, rfl, r10'.congr (fun i _ => rowV_congr' (fun i => (wantN_zero _ _ _ _ _ _ i).symm) i), r11.congr (fun i _ => rowV_congr' (fun i => (wantN_zero _ _ _ _ _ _ i).symm) i), C11⟩
      case round =>
        obtain ⟨k, hk, rfl, hA, hB, hbel⟩ := hrel
        have Bk : Below w1.heap.size w1 wr := B9.trans (hbel.mono B9.size)
        by_cases hlt : k < W
        · have b7 : wr.cell? ⟨b, off + (m + k), none⟩ = some (.int .u64 (f (m + k) : Int)) := (Bk.cell (p := ⟨b, off + (m + k), none⟩) hb).trans (hc _ (by omega))
          have b8 : wr.cell? ⟨b, off + (s + k), none⟩ = some (.int .u64 (f (s + k) : Int)) := (Bk.cell (p := ⟨b, off + (s + k), none⟩) hb).trans (hc _ (by omega))
          have b9 : wr.cell? ⟨b, off + (t + k), none⟩ = some (.int .u64 (f (t + k) : Int)) := (Bk.cell (p := ⟨b, off + (t + k), none⟩) hb).trans (hc _ (by omega))
          obtain ⟨v0, b5⟩ : ∃ v0, wr.cell? ⟨w9.heap.size, m + k, none⟩ = some v0 := ⟨_, hA.cell (by omega)⟩
          obtain ⟨v1, b4⟩ : ∃ v1, wr.cell? ⟨w10.heap.size, m + k, none⟩ = some v1 := ⟨_, hB.cell (by omega)⟩
          have b3 : wr.frozen? ⟨w9.heap.size, m + k, none⟩ = false := hA.frozen _
          have b2 : wr.frozen? ⟨w10.heap.size, m + k, none⟩ = false := hB.frozen _
          have hne : w9.heap.size ≠ w10.heap.size := by omega
          have R := (show Hid _ from rel_step hf hne hA hB)
          have S : Hid (∀ x y, Below w9.heap.size w9 ((wr.setCell ⟨w9.heap.size, m + k, none⟩ x).setCell ⟨w10.heap.size, m + k, none⟩ y)) := fun x y => (hbel.setCell (Nat.le_refl _) _).setCell (by show w9.heap.size ≤ w10.heap.size; omega) _
          clear hA hB hbel Bk
          go_wp2
          go_roundw
          case rel => exact ⟨k + 1, by omega, by go_num, R.out.1, R.out.2, S.out _ _⟩
          case measure => simp [intOf]; omega
        · have hkW : k = W := by omega
          have Q1 := row_below' P1 hbel (by omega)
          have Q2 := row_below' P2 hbel (by omega)
          have Q3 := row_below' P3 hbel (by omega)
          rw [hkW] at hA hB
          clear hkW P1 P2 P3 r10' r11 C11 hbel
          go_wp2_with fail
          refine (eq_any w1.heap.size w9.heap.size N N N _ _ _ hN Q1 hA (fun i _ => rfl)).mono ?_
          rintro e w12 ⟨rfl, q1, rfl⟩
          go_wp2_with fail
          refine (eq_any w4.heap.size w10.heap.size N N N _ _ _ hN (by exact Q2) (by exact hB) (fun i _ => rfl)).mono ?_
          rintro e w12 ⟨rfl, q2, rfl⟩
          go_wp2_with fail
          refine (eq_any w7.heap.size w1.heap.size N N N _ _ _ hN (by exact Q3) (by exact Q1) (fun i _ => rfl)).mono ?_
          rintro e w12 ⟨rfl, q3, rfl⟩
          go_wp2
          go_ret
          exact ⟨rfl, below_drewN Bk (q1 + q2 + q3)⟩
    · go_wp2_with fail
      refine (clone_pos b off N cap f _ hN (fun i hi => (B9.cell (p := ⟨b, off + i, none⟩) hb).trans (hc i hi)) (Nat.lt_of_lt_of_le hb B9.size)).mono ?_
      rintro e w10 ⟨rfl, r10, b10⟩
      have B10 : Below w1.heap.size w1 w10 := B9.trans (b10.mono B9.size)
      have l10 := r10.lt
      go_wp2_with fail
      refine (clone_pos b off N cap f _ hN (fun i hi => (B10.cell (p := ⟨b, off + i, none⟩) hb).trans (hc i hi)) (Nat.lt_of_lt_of_le hb B10.size)).mono ?_
      rintro e w11 ⟨rfl, r11, b11⟩
      have r10' := row_below' r10 b11 l10
      have C11 : Below w9.heap.size w9 w11 := b10.trans (b11.mono b10.size)
      clear b10 b11 r10 B10
      go_wp2_with fail
      go_loopw [27] (fun i wr => ∃ k : Nat, k ≤ W ∧ i = .int .i64 k ∧ wr.rowIs w9.heap.size 34 N (rowV (wantN f m s t (false || true) (false || true || true) k)) ∧ wr.rowIs w10.heap.size 34 N (rowV (wantN f m t s (false || true) (false || true || true) k)) ∧ Below w9.heap.size w9 wr) (fun i _ => W - (intOf i).toNat)
      case atStart => exact ⟨0, Nat.zero_le _, rfl, r10'.congr (fun i _ => rowV_congr' (fun i => (wantN_zero _ _ _ _ _ _ i).symm) i), r11.congr (fun i _ => rowV_congr' (fun i => (wantN_zero _ _ _ _ _ _ i).symm) i), C11⟩
      case round =>
        obtain ⟨k, hk, rfl, hA, hB, hbel⟩ := hrel
        have Bk : Below w1.heap.size w1 wr := B9.trans (hbel.mono B9.size)
        by_cases hlt : k < W
        · have b7 : wr.cell? ⟨b, off + (m + k), none⟩ = some (.int .u64 (f (m + k) : Int)) := (Bk.cell (p := ⟨b, off + (m + k), none⟩) hb).trans (hc _ (by omega))
          have b8 : wr.cell? ⟨b, off + (s + k), none⟩ = some (.int .u64 (f (s + k) : Int)) := (Bk.cell (p := ⟨b, off + (s + k), none⟩) hb).trans (hc _ (by omega))
          have b9 : wr.cell? ⟨b, off + (t + k), none⟩ = some (.int .u64 (f (t + k) : Int)) := (Bk.cell (p := ⟨b, off + (t + k), none⟩) hb).trans (hc _ (by omega))
          obtain ⟨v0, b5⟩ : ∃ v0, wr.cell? ⟨w9.heap.size, m + k, none⟩ = some v0 := ⟨_, hA.cell (by omega)⟩
          obtain ⟨v1, b4⟩ : ∃ v1, wr.cell? ⟨w10.heap.size, m + k, none⟩ = some v1 := ⟨_, hB.cell (by omega)⟩
          have b3 : wr.frozen? ⟨w9.heap.size, m + k, none⟩ = false := hA.frozen _
          have b2 : wr.frozen? ⟨w10.heap.size, m + k, none⟩ = false := hB.frozen _
          have hne : w9.heap.size ≠ w10.heap.size := by omega
          have R := (show Hid _ from rel_step hf hne hA hB)
          have S : Hid (∀ x y, Below w9.heap.size w9 ((wr.setCell ⟨w9.heap.size, m + k, none⟩ x).setCell ⟨w10.heap.size, m + k, none⟩ y)) := fun x y => (hbel.setCell (Nat.le_refl _) _).setCell (by show w9.heap.size ≤ w10.heap.size; omega) _
          clear hA hB hbel Bk
          go_wp2
          go_roundw
          case rel => exact ⟨k + 1, by omega, by go_num, R.out.1, R.out.2, S.out _ _⟩
          case measure => simp [intOf]; omega
        · have hkW : k = W := by omega
          have Q1 := row_below' P1 hbel (by omega)
          have Q2 := row_below' P2 hbel (by omega)
          have Q3 := row_below' P3 hbel (by omega)
          rw [hkW] at hA hB
          clear hkW P1 P2 P3 r10' r11 C11 hbel
          go_wp2_with fail
          refine (eq_any w1.heap.size w9.heap.size N N N _ _ _ hN Q1 hA (fun i _ => rfl)).mono ?_
          rintro e w12 ⟨rfl, q1, rfl⟩
          go_wp2_with fail
          refine (eq_any w4.heap.size w10.heap.size N N N _ _ _ hN (by exact Q2) (by exact hB) (fun i _ => rfl)).mono ?_
          rintro e w12 ⟨rfl, q2, rfl⟩
          go_wp2_with fail
          refine (eq_any w7.heap.size w1.heap.size N N N _ _ _ hN (by exact Q3) (by exact Q1) (fun i _ => rfl)).mono ?_
          rintro e w12 ⟨rfl, q3, rfl⟩
          go_wp2
          go_ret
          exact ⟨rfl, below_drewN Bk (q1 + q2 + q3)⟩
    · go_wp2_with fail
      refine (clone_pos b off N cap f _ hN (fun i hi => (B9.cell (p := ⟨b, off + i, none⟩) hb).trans (hc i hi)) (Nat.lt_of_lt_of_le hb B9.size)).mono ?_
      rintro e w10 ⟨rfl, r10, b10⟩
      have B10 : Below w1.heap.size w1 w10 := B9.trans (b10.mono B9.size)
      have l10 := r10.lt
      go_wp2_with fail
      refine (clone_pos b off N cap f _ hN (fun i hi => (B10.cell (p := ⟨b, off + i, none⟩) hb).trans (hc i hi)) (Nat.lt_of_lt_of_le hb B10.size)).mono ?_
      rintro e w11 ⟨rfl, r11, b11⟩
      have r10' := row_below' r10 b11 l10
      have C11 : Below w9.heap.size w9 w11 := b10.trans (b11.mono b10.size)
      clear b10 b11 r10 B10
      go_wp2_with fail
      go_loopw [27] (fun i wr => ∃ k : Nat, k ≤ W ∧ i = .int .i64 k ∧ wr.rowIs w9.heap.size 34 N (rowV (wantN f m s t (true || false) (true || false || false) k)) ∧ wr.rowIs w10.heap.size 34 N (rowV (wantN f m t s (true || false) (true || false || false) k)) ∧ Below w9.heap.size w9 wr) (fun i _ => W - (intOf i).toNat)
      case atStart => exact ⟨0, Nat.zero_le _, rfl, r10'.congr (fun i _ => rowV_congr' (fun i => (wantN_zero _ _ _ _ _ _ i).symm) i), r11.congr (fun i _ => rowV_congr' (fun i => (wantN_zero _ _ _ _ _ _ i).symm) i), C11⟩
      case round =>
        obtain ⟨k, hk, rfl, hA, hB, hbel⟩ := hrel
        have Bk : Below w1.heap.size w1 wr := B9.trans (hbel.mono B9.size)
        by_cases hlt : k < W
        · have b7 : wr.cell? ⟨b, off + (m + k), none⟩ = some (.int .u64 (f (m + k) : Int)) := (Bk.cell (p := ⟨b, off + (m + k), none⟩) hb).trans (hc _ (by omega))
          have b8 : wr.cell? ⟨b, off + (s + k), none⟩ = some (.int .u64 (f (s + k) : Int)) := (Bk.cell (p := ⟨b, off + (s + k), none⟩) hb).trans (hc _ (by omega))
          have b9 : wr.cell? ⟨b, off + (t + k), none⟩ = some (.int .u64 (f (t + k) : Int)) := (Bk.cell (p := ⟨b, off + (t + k), none⟩) hb).trans (hc _ (by omega))
          obtain ⟨v0, b5⟩ : ∃ v0, wr.cell? ⟨w9.heap.size, m + k, none⟩ = some v0 := ⟨_, hA.cell (by omega)⟩
          obtain ⟨v1, b4⟩ : ∃ v1, wr.cell? ⟨w10.heap.size, m + k, none⟩ = some v1 := ⟨_, hB.cell (by omega)⟩
          have b3 : wr.frozen? ⟨w9.heap.size, m + k, none⟩ = false := hA.frozen _
          have b2 : wr.frozen? ⟨w10.heap.size, m + k, none⟩ = false := hB.frozen _
          have hne : w9.heap.size ≠ w10.heap.size := by omega
          have R := (show Hid _ from rel_step hf hne hA hB)
          have S : Hid (∀ x y, Below w9.heap.size w9 ((wr.setCell ⟨w9.heap.size, m + k, none⟩ x).setCell ⟨w10.heap.size, m + k, none⟩ y)) := fun x y => (hbel.setCell (Nat.le_refl _) _).setCell (by show w9.heap.size ≤ w10.heap.size; omega) _
          clear hA hB hbel Bk
          go_wp2
          go_roundw
          case rel => exact ⟨k + 1, by omega, by go_num, R.out.1, R.out.2, S.out _ _⟩
          case measure => simp [intOf]; omega
        · have hkW : k = W := by omega
          have Q1 := row_below' P1 hbel (by omega)
          have Q2 := row_below' P2 hbel (by omega)
          have Q3 := row_below' P3 hbel (by omega)
          rw [hkW] at hA hB
          clear hkW P1 P2 P3 r10' r11 C11 hbel
          go_wp2_with fail
          refine (eq_any w1.heap.size w9.heap.size N N N _ _ _ hN Q1 hA (fun i _ => rfl)).mono ?_
          rintro e w12 ⟨rfl, q1, rfl⟩
          go_wp2_with fail
          refine (eq_any w4.heap.size w10.heap.size N N N _ _ _ hN (by exact Q2) (by exact hB) (fun i _ => rfl)).mono ?_
          rintro e w12 ⟨rfl, q2, rfl⟩
          go_wp2_with fail
          refine (eq_any w7.heap.size w1.heap.size N N N _ _ _ hN (by exact Q3) (by exact Q1) (fun i _ => rfl)).mono ?_
          rintro e w12 ⟨rfl, q3, rfl⟩
          go_wp2
          go_ret
          exact ⟨rfl, below_drewN Bk (q1 + q2 + q3)⟩
    · go_wp2_with fail
      refine (clone_pos b off N cap f _ hN (fun i hi => (B9.cell (p := ⟨b, off + i, none⟩) hb).trans (hc i hi)) (Nat.lt_of_lt_of_le hb B9.size)).mono ?_
      rintro e w10 ⟨rfl, r10, b10⟩
      have B10 : Below w1.heap.size w1 w10 := B9.trans (b10.mono B9.size)
      have l10 := r10.lt
      go_wp2_with fail
      refine (clone_pos b off N cap f _ hN (fun i hi => (B10.cell (p := ⟨b, off + i, none⟩) hb).trans (hc i hi)) (Nat.lt_of_lt_of_le hb B10.size)).mono ?_
      rintro e w11 ⟨rfl, r11, b11⟩
      have r10' := row_below' r10 b11 l10
      have C11 : Below w9.heap.size w9 w11 := b10.trans (b11.mono b10.size)
      clear b10 b11 r10 B10
      go_wp2_with fail
      go_loopw [27] (fun i wr => ∃ k : Nat, k ≤ W ∧ i = .int .i64 k ∧ wr.rowIs w9.heap.size 34 N (rowV (wantN f m s t (true || false) (true || false || true) k)) ∧ wr.rowIs w10.heap.size 34 N (rowV (wantN f m t s (true || true) (true || true || false) k)) ∧ Below w9.heap.size w9 wr) (fun i _ => W - (intOf i).toNat)
      case atStart => exact ⟨0, Nat.zero_le _, rfl, r10'.congr (fun i _ => rowV_congr' (fun i => (wantN_zero _ _ _ _ _ _ i).symm) i), r11.congr (fun i _ => rowV_congr' (fun i => (wantN_zero _ _ _ _ _ _ i).symm) i), C11⟩
      case round =>
        obtain ⟨k, hk, rfl, hA, hB, hbel⟩ := hrel
        have Bk : Below w1.heap.size w1 wr := B9.trans (hbel.mono B9.size)
        by_cases hlt : k < W
        · have b7 : wr.cell? ⟨b, off + (m + k), none⟩ = some (.int .u64 (f (m + k) : Int)) := (Bk.cell (p := ⟨b, off + (m + k), none⟩) hb).trans (hc _ (by omega))
          have b8 : wr.cell? ⟨b, off + (s + k), none⟩ = some (.int .u64 (f (s + k) : Int)) := (Bk.cell (p := ⟨b, off + (s + k), none⟩) hb).trans (hc _ (by omega))
          have b9 : wr.cell? ⟨b, off + (t + k), none⟩ = some (.int .u64 (f (t + k) : Int)) := (Bk.cell (p := ⟨b, off + (t + k), none⟩) hb).trans (hc _ (by omega))
          obtain ⟨v0, b5⟩ : ∃ v0, wr.cell? ⟨w9.heap.size, m + k, none⟩ = some v0 := ⟨_, hA.cell (by omega)⟩
          obtain ⟨v1, b4⟩ : ∃ v1, wr.cell? ⟨w10.heap.size, m + k, none⟩ = some v1 := ⟨_, hB.cell (by omega)⟩
          have b3 : wr.frozen? ⟨w9.heap.size, m + k, none⟩ = false := hA.frozen _
          have b2 : wr.frozen? ⟨w10.heap.size, m + k, none⟩ = false := hB.frozen _
          have hne : w9.heap.size ≠ w10.heap.size := by omega
          have R := (show Hid _ from rel_step hf hne hA hB)
          have S : Hid (∀ x y, Below w9.heap.size w9 ((wr.setCell ⟨w9.heap.size, m + k, none⟩ x).setCell ⟨w10.heap.size, m + k, none⟩ y)) := fun x y => (hbel.setCell (Nat.le_refl _) _).setCell (by show w9.heap.size ≤ w10.heap.size; omega) _
          clear hA hB hbel Bk
          go_wp2
          go_roundw
          case rel => exact ⟨k + 1, by omega, by go_num, R.out.1, R.out.2, S.out _ _⟩
          case measure => simp [intOf]; omega
        · have hkW : k = W := by omega
          have Q1 := row_below' P1 hbel (by omega)
          have Q2 := row_below' P2 hbel (by omega)
          have Q3 := row_below' P3 hbel (by omega)
          rw [hkW] at hA hB
          clear hkW P1 P2 P3 r10' r11 C11 hbel
          go_wp2_with fail
          refine (eq_any w1.heap.size w9.heap.size N N N _ _ _ hN Q1 hA (fun i _ => rfl)).mono ?_
          rintro e w12 ⟨rfl, q1, rfl⟩
          go_wp2_with fail
          refine (eq_any w4.heap.size w10.heap.size N N N _ _ _ hN (by exact Q2) (by exact hB) (fun i _ => rfl)).mono ?_
          rintro e w12 ⟨rfl, q2, rfl⟩
          go_wp2_with fail
          refine (eq_any w7.heap.size w1.heap.size N N N _ _ _ hN (by exact Q3) (by exact Q1) (fun i _ => rfl)).mono ?_
          rintro e w12 ⟨rfl, q3, rfl⟩
          go_wp2
          go_ret
          exact ⟨rfl, below_drewN Bk (q1 + q2 + q3)⟩
    · go_wp2_with fail
      refine (clone_pos b off N cap f _ hN (fun i hi => (B9.cell (p := ⟨b, off + i, none⟩) hb).trans (hc i hi)) (Nat.lt_of_lt_of_le hb B9.size)).mono ?_
      rintro e w10 ⟨rfl, r10, b10⟩
      have B10 : Below w1.heap.size w1 w10 := B9.trans (b10.mono B9.size)
      have l10 := r10.lt
      go_wp2_with fail
      refine (clone_pos b off N cap f _ hN (fun i hi => (B10.cell (p := ⟨b, off + i, none⟩) hb).trans (hc i hi)) (Nat.lt_of_lt_of_le hb B10.size)).mono ?_
      rintro e w11 ⟨rfl, r11, b11⟩
      have r10' := row_below' r10 b11 l10
      have C11 : Below w9.heap.size w9 w11 := b10.trans (b11.mono b10.size)
      clear b10 b11 r10 B10
      go_wp2_with fail
      go_loopw [27] (fun i wr => ∃ k : Nat, k ≤ W ∧ i = .int .i64 k ∧ wr.rowIs w9.heap.size 34 N (rowV (wantN f m s t (true || true) (true || true || false) k)) ∧ wr.rowIs w10.heap.size 34 N (rowV (wantN f m t s (true || false) (true || false || true) k)) ∧ Below w9.heap.size w9 wr) (fun i _ => W - (intOf i).toNat)
      case atStart => exact ⟨0, Nat.zero_le _, rfl, r10'.congr (fun i _ => rowV_congr' (fun i => (wantN_zero _ _ _ _ _ _ i).symm) i), r11.congr (fun i _ => rowV_congr' (fun i => (wantN_zero _ _ _ _ _ _ i).symm) i), C11⟩
      case round =>
        obtain ⟨k, hk, rfl, hA, hB, hbel⟩ := hrel
        have Bk : Below w1.heap.size w1 wr := B9.trans (hbel.mono B9.size)
        by_cases hlt : k < W
        · have b7 : wr.cell? ⟨b, off + (m + k), none⟩ = some (.int .u64 (f (m + k) : Int)) := (Bk.cell (p := ⟨b, off + (m + k), none⟩) hb).trans (hc _ (by omega))
          have b8 : wr.cell? ⟨b, off + (s + k), none⟩ = some (.int .u64 (f (s + k) : Int)) := (Bk.cell (p := ⟨b, off + (s + k), none⟩) hb).trans (hc _ (by omega))
          have b9 : wr.cell? ⟨b, off + (t + k), none⟩ = some (.int .u64 (f (t + k) : Int)) := (Bk.cell (p := ⟨b, off + (t + k), none⟩) hb).trans (hc _ (by omega))
          obtain ⟨v0, b5⟩ : ∃ v0, wr.cell? ⟨w9.heap.size, m + k, none⟩ = some v0 := ⟨_, hA.cell (by omega)⟩
          obtain ⟨v1, b4⟩ : ∃ v1, wr.cell? ⟨w10.heap.size, m + k, none⟩ = some v1 := ⟨_, hB.cell (by omega)⟩
          have b3 : wr.frozen? ⟨w9.heap.size, m + k, none⟩ = false := hA.frozen _
          have b2 : wr.frozen? ⟨w10.heap.size, m + k, none⟩ = false := hB.frozen _
          have hne : w9.heap.size ≠ w10.heap.size := by omega
          have R := (show Hid _ from rel_step hf hne hA hB)
          have S : Hid (∀ x y, Below w9.heap.size w9 ((wr.setCell ⟨w9.heap.size, m + k, none⟩ x).setCell ⟨w10.heap.size, m + k, none⟩ y)) := fun x y => (hbel.setCell (Nat.le_refl _) _).setCell (by show w9.heap.size ≤ w10.heap.size; omega) _
          clear hA hB hbel Bk
          go_wp2
          go_roundw
          case rel => exact ⟨k + 1, by omega, by go_num, R.out.1, R.out.2, S.out _ _⟩
          case measure => simp [intOf]; omega
        · have hkW : k = W := by omega
          have Q1 := row_below' P1 hbel (by omega)
          have Q2 := row_below' P2 hbel (by omega)
          have Q3 := row_below' P3 hbel (by omega)
          rw [hkW] at hA hB
          clear hkW P1 P2 P3 r10' r11 C11 hbel
          go_wp2_with fail
          refine (eq_any w1.heap.size w9.heap.size N N N _ _ _ hN Q1 hA (fun i _ => rfl)).mono ?_
          rintro e w12 ⟨rfl, q1, rfl⟩
          go_wp2_with fail
          refine (eq_any w4.heap.size w10.heap.size N N N _ _ _ hN (by exact Q2) (by exact hB) (fun i _ => rfl)).mono ?_
          rintro e w12 ⟨rfl, q2, rfl⟩
          go_wp2_with fail
          refine (eq_any w7.heap.size w1.heap.size N N N _ _ _ hN (by exact Q3) (by exact Q1) (fun i _ => rfl)).mono ?_
          rintro e w12 ⟨rfl, q3, rfl⟩
          go_wp2
          go_ret
          exact ⟨rfl, below_drewN Bk (q1 + q2 + q3)⟩
    · go_wp2_with fail
      refine (clone_pos b off N cap f _ hN (fun i hi => (B9.cell (p := ⟨b, off + i, none⟩) hb).trans (hc i hi)) (Nat.lt_of_lt_of_le hb B9.size)).mono ?_
      rintro e w10 ⟨rfl, r10, b10⟩
      have B10 : Below w1.heap.size w1 w10 := B9.trans (b10.mono B9.size)
      have l10 := r10.lt
      go_wp2_with fail
      refine (clone_pos b off N cap f _ hN (fun i hi => (B10.cell (p := ⟨b, off + i, none⟩) hb).trans (hc i hi)) (Nat.lt_of_lt_of_le hb B10.size)).mono ?_
      rintro e w11 ⟨rfl, r11, b11⟩
      have r10' := row_below' r10 b11 l10
      have C11 : Below w9.heap.size w9 w11 := b10.trans (b11.mono b10.size)
      clear b10 b11 r10 B10
      go_wp2_with fail
      go_loopw [27] (fun i wr => ∃ k : Nat, k ≤ W ∧ i = .int .i64 k ∧ wr.rowIs w9.heap.size 34 N (rowV (wantN f m s t (true || true) (true || true || true) k)) ∧ wr.rowIs w10.heap.size 34 N (rowV (wantN f m t s (true || true) (true || true || true) k)) ∧ Below w9.heap.size w9 wr) (fun i _ => W - (intOf i).toNat)
      case atStart => exact ⟨0, Nat.zero_le _, rfl, r10'.congr (fun i _ => rowV_congr' (fun i => (wantN_zero _ _ _ _ _ _ i).symm) i), r11.congr (fun i _ => rowV_congr' (fun i => (wantN_zero _ _ _ _ _ _ i).symm) i), C11⟩
      case round =>
        obtain ⟨k, hk, rfl, hA, hB, hbel⟩ := hrel
        have Bk : Below w1.heap.size w1 wr := B9.trans (hbel.mono B9.size)
        by_cases hlt : k < W
        · have b7 : wr.cell? ⟨b, off + (m + k), none⟩ = some (.int .u64 (f (m + k) : Int)) := (Bk.cell (p := ⟨b, off + (m + k), none⟩) hb).trans (hc _ (by omega))
          have b8 : wr.cell? ⟨b, off + (s + k), none⟩ = some (.int .u64 (f (s + k) : Int)) := (Bk.cell (p := ⟨b, off + (s + k), none⟩) hb).trans (hc _ (by omega))
          have b9 : wr.cell? ⟨b, off + (t + k), none⟩ = some (.int .u64 (f (t + k) : Int)) := (Bk.cell (p := ⟨b, off + (t + k), none⟩) hb).trans (hc _ (by omega))
          obtain ⟨v0, b5⟩ : ∃ v0, wr.cell? ⟨w9.heap.size, m + k, none⟩ = some v0 := ⟨_, hA.cell (by omega)⟩
          obtain ⟨v1, b4⟩ : ∃ v1, wr.cell? ⟨w10.heap.size, m + k, none⟩ = some v1 := ⟨_, hB.cell (by omega)⟩
          have b3 : wr.frozen? ⟨w9.heap.size, m + k, none⟩ = false := hA.frozen _
          have b2 : wr.frozen? ⟨w10.heap.size, m + k, none⟩ = false := hB.frozen _
          have hne : w9.heap.size ≠ w10.heap.size := by omega
          have R := (show Hid _ from rel_step hf hne hA hB)
          have S : Hid (∀ x y, Below w9.heap.size w9 ((wr.setCell ⟨w9.heap.size, m + k, none⟩ x).setCell ⟨w10.heap.size, m + k, none⟩ y)) := fun x y => (hbel.setCell (Nat.le_refl _) _).setCell (by show w9.heap.size ≤ w10.heap.size; omega) _
          clear hA hB hbel Bk
          go_wp2
          go_roundw
          case rel => exact ⟨k + 1, by omega, by go_num, R.out.1, R.out.2, S.out _ _⟩
          case measure => simp [intOf]; omega
        · have hkW : k = W := by omega
          have Q1 := row_below' P1 hbel (by omega)
          have Q2 := row_below' P2 hbel (by omega)
          have Q3 := row_below' P3 hbel (by omega)
          rw [hkW] at hA hB
          clear hkW P1 P2 P3 r10' r11 C11 hbel
          go_wp2_with fail
          refine (eq_any w1.heap.size w9.heap.size N N N _ _ _ hN Q1 hA (fun i _ => rfl)).mono ?_
          rintro e w12 ⟨rfl, q1, rfl⟩
          go_wp2_with fail
          refine (eq_any w4.heap.size w10.heap.size N N N _ _ _ hN (by exact Q2) (by exact hB) (fun i _ => rfl)).mono ?_
          rintro e w12 ⟨rfl, q2, rfl⟩
          go_wp2_with fail
          refine (eq_any w7.heap.size w1.heap.size N N N _ _ _ hN (by exact Q3) (by exact Q1) (fun i _ => rfl)).mono ?_
          rintro e w12 ⟨rfl, q3, rfl⟩
          go_wp2
          go_ret
          exact ⟨rfl, below_drewN Bk (q1 + q2 + q3)⟩
end Go.Proofs.Qxb6616441a
