import Derived.Test.Qxb6616441aSplitOut
namespace Go.Proofs.Qxb6616441a
open Go.RowKit

theorem row_below {w w' : World} {B g N : Nat} {f : Nat → Value} (h : w.rowIs g 34 N f) (hb : Below B w w') (hg : g < B) : w'.rowIs g 34 N f := h.of_block (hb.block g hg)
theorem row_grown {w w' : World} {g0 g N : Nat} {f : Nat → Value} (h : w.rowIs g 34 N f) (hb : w.grownBy w' (some g0)) (hg : g ≠ g0) : w'.rowIs g 34 N f := h.of_block (hb.block g h.lt (by simpa using hg))
theorem below_grown {w w1 w2 : World} {g : Nat} (h : Below w.heap.size w w1) (hg : w1.grownBy w2 (some g)) (hle : w.heap.size ≤ g) : Below w.heap.size w w2 :=
  h.grown hg h.size (fun k e => by cases e; exact hle)

theorem parts_eq {all : Bool} {f : Nat → Nat} {m s cut W : Nat} (h : cut ≤ W) (i : Nat) :
    stepN all (fun i => stepN all f m s cut i) (m + cut) (s + cut) (W - cut) i = stepN all f m s W i := by
  cases all
  · have := mergeN_split f m s cut (W - cut) i
    rw [show cut + (W - cut) = W by omega] at this
    exact this
  · rfl

theorem rowV_congr {f g : Nat → Nat} (h : ∀ i, f i = g i) (i : Nat) : rowV f i = rowV g i := by
  show Value.int .u64 (f i : Int) = Value.int .u64 (g i : Int)
  rw [h i]

set_option maxRecDepth 20000 in
set_option maxHeartbeats 3200000 in
theorem split_in (b off N cap : Nat) (mAll sAll : Bool) (m s n cut W n1 : Nat) (f : Nat → Nat) (w : World) (hf : ∀ i, f i < 18446744073709551616)
    (hc : ∀ i, i < N → w.cell? ⟨b, off + i, none⟩ = some (.int .u64 (f i : Int))) (hb : b < w.heap.size) (hN : N ≤ 65536) (hn : n ≤ 4194304) (hW : ((n : Int) + 63) / 64 = (W : Int))
    (hm : m + W ≤ N) (hs : s + W ≤ N) (hap : apB m s W = true) (hcut : cut ≤ W) (hn1 : ((cut : Int) == (W : Int)) = true ∧ n1 = n ∨ ((cut : Int) == (W : Int)) = false ∧ n1 = 64 * cut)
    (E1 : Hid (((n1 : Int) + 63) / 64 = (cut : Int))) (e2 : n1 ≤ n) (E3 : Hid ((((n - n1 : Nat) : Int) + 63) / 64 = ((W - cut : Nat) : Int))) :
    Calls Try.prog 5 #[.slice (some ⟨b, off, none⟩) N cap, .bool mAll, .int .i64 m, .bool sAll, .int .i64 s, .int .i64 n, .int .i64 cut] w fun e w' => e = .returned (.bool true) ∧ Below w.heap.size w w' := by
  have HA : Hid (Apart m s W) := by
    have h := (apB_iff _ _ _).1 hap
    show m = s ∨ m + W ≤ s ∨ s + W ≤ m
    omega
  rcases hn1 with ⟨hcw, hn1⟩ | ⟨hcw, hn1⟩
  all_goals
    have HN := (show Hid _ from hn1)
    clear hn1
    go_enter Try.func5, Try.ntmps5
    go_wp2_with fail
    refine (bytes12_any _ N cap mAll sAll m s n cut _ (by omega)).mono ?_
    rintro e w0 ⟨⟨r, rfl⟩, rfl⟩
    cases r with
    | false =>
      go_wp2
      go_ret
      exact ⟨rfl, Below.refl _ _⟩
    | true =>
      go_wp2_with fail
      refine (apart_any _ _ _ _ (by omega) (by omega) (by omega) (by omega) (by omega) (by omega)).mono ?_
      rintro e w1 ⟨rfl, rfl⟩
      go_wp2_with fail
      refine (clone_pos b off N cap f _ hN hc hb).mono ?_
      rintro e w2 ⟨rfl, r2, b2⟩
      go_wp2_with fail
      refine (clone_pos b off N cap f _ hN (fun i hi => (b2.cell (p := ⟨b, off + i, none⟩) hb).trans (hc i hi)) (Nat.lt_of_lt_of_le hb b2.size)).mono ?_
      rintro e w3 ⟨rfl, r3, b3⟩
      have l2 := r2.lt
      have r2' : w3.rowIs w1.heap.size 34 N (rowV f) := row_below r2 b3 l2
      have B3 : Below w1.heap.size w1 w3 := b2.trans (b3.mono b2.size)
      clear r2 b2 b3
      go_wp2_with fail
      refine (zz_int w1.heap.size N N _ _ _ m s n W mAll sAll f _ hf r2' rfl rfl rfl hn hW hN hm hs).mono ?_
      rintro e w4 ⟨rfl, r4, g4⟩
      have r4' : w4.rowIs w2.heap.size 34 N (rowV f) := row_grown r3 g4 (by omega)
      have B4 : Below w1.heap.size w1 w4 := below_grown B3 g4 (Nat.le_refl _)
      clear r3 r2' g4 B3
      go_wp2_with fail
      refine (zz_int w2.heap.size N N _ _ _ m s n1 cut mAll sAll f _ hf r4' rfl rfl (by have h := HN.out; omega) (by omega) E1.out hN (by omega) (by omega)).mono ?_
      rintro e w5 ⟨rfl, r5, g5⟩
      have r5' := row_grown r4 g5 (by omega)
      have B5 : Below w1.heap.size w1 w5 := below_grown B4 g5 (by omega)
      clear r4 r4' g5 B4
      go_wp2_with fail
      refine (zz_int w2.heap.size N N _ _ _ (m + cut) (s + cut) (n - n1) (W - cut) mAll sAll _ _ (fun i => stepN_lt hf i) r5 (by omega) (by omega) (by have h := HN.out; omega) (by omega) E3.out hN (by omega) (by omega)).mono ?_
      rintro e w6 ⟨rfl, r6, g6⟩
      have r6' := row_grown r5' g6 (by omega)
      have B6 : Below w1.heap.size w1 w6 := below_grown B5 g6 (by omega)
      have r6'' : w6.rowIs w2.heap.size 34 N (rowV (stepN (mAll || sAll) f m s W)) := r6.congr (fun i _ => rowV_congr (fun i => parts_eq hcut i) i)
      have l6 := r6'.lt
      have l6' := r6.lt
      clear r5 r5' g6 B5 r6 E1 E3
      cases mAll
      · cases sAll
        · go_wp2_with fail
          refine (clone_pos b off N cap f _ hN (fun i hi => (B6.cell (p := ⟨b, off + i, none⟩) hb).trans (hc i hi)) (Nat.lt_of_lt_of_le hb B6.size)).mono ?_
          rintro e w7 ⟨rfl, r7, b7⟩
          have R1 : w7.rowIs w1.heap.size 34 N (rowV (mergeN f m s W)) := row_below r6' b7 l6
          have R2 : w7.rowIs w2.heap.size 34 N (rowV (mergeN f m s W)) := row_below r6'' b7 l6'
          have B7 : Below w1.heap.size w1 w7 := B6.trans (b7.mono B6.size)
          clear r6' r6'' b7 B6
          go_wp2_with fail
          go_loopw [24] (fun i wr => ∃ k : Nat, k ≤ W ∧ i = .int .i64 k ∧ wr.rowIs w6.heap.size 34 N (rowV (joinN f m s k)) ∧ w7.grownBy wr (some w6.heap.size)) (fun i _ => W - (intOf i).toNat)
          case atStart => exact ⟨0, Nat.zero_le _, rfl, r7.congr (fun i _ => rowV_congr (fun i => (joinN_out (by omega)).symm) i), grown_refl _ _⟩
          case round =>
            obtain ⟨k, hk, rfl, hrow, hgr⟩ := hrel
            have Bk : Below w1.heap.size w1 wr := below_grown B7 hgr (by omega)
            by_cases hlt : k < W
            · have b7 : wr.cell? ⟨b, off + (m + k), none⟩ = some (.int .u64 (f (m + k) : Int)) := (Bk.cell (p := ⟨b, off + (m + k), none⟩) hb).trans (hc _ (by omega))
              have b8 : wr.cell? ⟨b, off + (s + k), none⟩ = some (.int .u64 (f (s + k) : Int)) := (Bk.cell (p := ⟨b, off + (s + k), none⟩) hb).trans (hc _ (by omega))
              obtain ⟨v0, b5⟩ : ∃ v0, wr.cell? ⟨w6.heap.size, m + k, none⟩ = some v0 := ⟨_, hrow.cell (by omega)⟩
              have b9 : wr.frozen? ⟨w6.heap.size, m + k, none⟩ = false := hrow.frozen _
              have R : Hid ((wr.setCell ⟨w6.heap.size, m + k, none⟩ (.int .u64 (bits .or .u64 (f (m + k) : Int) (f (s + k) : Int)))).rowIs w6.heap.size 34 N (rowV (joinN f m s (k + 1)))) :=
                (hrow.set (m + k) (.int .u64 (bits .or .u64 (f (m + k) : Int) (f (s + k) : Int)))).congr (fun i _ => by
                  rw [u64_or _ _ (hf _) (hf _)]
                  show (if i = m + k then _ else Value.int .u64 (joinN f m s k i : Int)) = Value.int .u64 ((joinN f m s (k + 1) i : Nat) : Int)
                  rw [joinN_step]
                  by_cases ei : i = m + k
                  · rw [if_pos ei, if_pos ei]
                  · rw [if_neg ei, if_neg ei])
              have S : Hid (w7.grownBy (wr.setCell ⟨w6.heap.size, m + k, none⟩ (.int .u64 (bits .or .u64 (f (m + k) : Int) (f (s + k) : Int)))) (some w6.heap.size)) := grown_set hgr _ _
              clear hrow hgr Bk
              go_wp2_with fail
              go_region
              clear b5 b7 b8 b9
              go_wp2
              go_roundw
              case rel => exact ⟨k + 1, by omega, by go_num, R.out.drew, grown_drew S.out⟩
              case measure => simp [intOf]; omega
            · have hkW : k = W := by omega
              have Q1 : wr.rowIs w1.heap.size 34 N (rowV (mergeN f m s W)) := row_grown R1 hgr (by omega)
              have Q2 : wr.rowIs w2.heap.size 34 N (rowV (mergeN f m s W)) := row_grown R2 hgr (by omega)
              have Q3 : wr.rowIs w6.heap.size 34 N (rowV (joinN f m s W)) := by rw [← hkW]; exact hrow
              clear hkW hrow hgr R1 R2 r7 B7
              go_wp2_with fail
              refine (eq_any w1.heap.size w6.heap.size N N N _ _ _ hN Q1 Q3 (fun i _ => mergeN_eq HA.out W (Nat.le_refl _) i)).mono ?_
              rintro e w8 ⟨rfl, q1, rfl⟩
              go_wp2_with fail
              refine (eq_any w2.heap.size w6.heap.size N N N _ _ _ hN (by exact Q2) (by exact Q3) (fun i _ => mergeN_eq HA.out W (Nat.le_refl _) i)).mono ?_
              rintro e w8 ⟨rfl, q2, rfl⟩
              go_wp2
              go_ret
              exact ⟨rfl, below_drewN Bk (q1 + q2)⟩
        · go_wp2_with fail
          refine (clone_pos b off N cap f _ hN (fun i hi => (B6.cell (p := ⟨b, off + i, none⟩) hb).trans (hc i hi)) (Nat.lt_of_lt_of_le hb B6.size)).mono ?_
          rintro e w7 ⟨rfl, r7, b7⟩
          have R1 : w7.rowIs w1.heap.size 34 N (rowV f) := row_below r6' b7 l6
          have R2 : w7.rowIs w2.heap.size 34 N (rowV f) := row_below r6'' b7 l6'
          have B7 : Below w1.heap.size w1 w7 := B6.trans (b7.mono B6.size)
          clear r6' r6'' b7 B6
          go_wp2_with fail
          refine (eq_any w1.heap.size w6.heap.size N N N _ _ _ hN R1 r7 (fun i _ => rfl)).mono ?_
          rintro e w8 ⟨rfl, q1, rfl⟩
          go_wp2_with fail
          refine (eq_any w2.heap.size w6.heap.size N N N _ _ _ hN (by exact R2) (by exact r7) (fun i _ => rfl)).mono ?_
          rintro e w8 ⟨rfl, q2, rfl⟩
          go_wp2
          go_ret
          exact ⟨rfl, below_drewN B7 (q1 + q2)⟩
      · go_wp2_with fail
        refine (clone_pos b off N cap f _ hN (fun i hi => (B6.cell (p := ⟨b, off + i, none⟩) hb).trans (hc i hi)) (Nat.lt_of_lt_of_le hb B6.size)).mono ?_
        rintro e w7 ⟨rfl, r7, b7⟩
        have R1 : w7.rowIs w1.heap.size 34 N (rowV f) := row_below r6' b7 l6
        have R2 : w7.rowIs w2.heap.size 34 N (rowV f) := row_below r6'' b7 l6'
        have B7 : Below w1.heap.size w1 w7 := B6.trans (b7.mono B6.size)
        clear r6' r6'' b7 B6
        go_wp2_with fail
        refine (eq_any w1.heap.size w6.heap.size N N N _ _ _ hN R1 r7 (fun i _ => rfl)).mono ?_
        rintro e w8 ⟨rfl, q1, rfl⟩
        go_wp2_with fail
        refine (eq_any w2.heap.size w6.heap.size N N N _ _ _ hN (by exact R2) (by exact r7) (fun i _ => rfl)).mono ?_
        rintro e w8 ⟨rfl, q2, rfl⟩
        go_wp2
        go_ret
        exact ⟨rfl, below_drewN B7 (q1 + q2)⟩
end Go.Proofs.Qxb6616441a
