import Derived.Test.Qxb6616441aMergeLeaf
namespace Go.Proofs.Qxb6616441a
open Go.RowKit

set_option maxHeartbeats 400000 in
theorem merge_set (e p q : Nat) (n : Int) (mAll sAll : Bool) (w : World) (c1 : w.cell? ⟨p, 0, none⟩ = some (.bool mAll)) (c2 : w.cell? ⟨q, 0, none⟩ = some (.bool sAll)) (c3 : w.frozen? ⟨p, 0, none⟩ = false) (h : (mAll || sAll) = true) :
    Calls Try.prog 18 #[.pointer (some ⟨e, 0, none⟩), .pointer (some ⟨p, 0, none⟩), .pointer (some ⟨q, 0, none⟩), .int .i64 n] w fun x w' => x = .returned (.tuple #[]) ∧ w' = w.setCell ⟨p, 0, none⟩ (.bool true) := by
  cases mAll with
  | true =>
    clear h
    go_enter Try.func18, Try.ntmps18
    go_wp2
    exact bodyPost_ret (v := .tuple #[]) (by simp [results, Try.results18, go_sem]) rfl ⟨rfl, rfl⟩
  | false =>
    cases sAll with
    | true =>
      clear h
      go_enter Try.func18, Try.ntmps18
      go_wp2
      exact bodyPost_ret (v := .tuple #[]) (by simp [results, Try.results18, go_sem]) rfl ⟨rfl, rfl⟩
    | false => cases h

theorem grown_set {w wr : World} {g : Nat} (h : w.grownBy wr (some g)) (i : Nat) (v : Value) : w.grownBy (wr.setCell ⟨g, i, none⟩ v) (some g) :=
  ⟨h.os, h.tape, h.output, by simpa using h.size, fun k hk hne => by
    rw [Below.heap_setCell _ _ _ _ (by intro e; exact hne (by rw [e]))]; exact h.block k hk hne⟩
theorem grown_drew {w wr : World} {row : Option Nat} (h : w.grownBy wr row) : w.grownBy wr.drew row := ⟨h.os, h.tape, h.output, h.size, h.block⟩
theorem grown_refl (w : World) (row : Option Nat) : w.grownBy w row := ⟨rfl, rfl, rfl, Nat.le_refl _, fun _ _ _ => rfl⟩
theorem grown_cell {w wr : World} {g : Nat} (h : w.grownBy wr (some g)) {a : Addr} {v : Value} (hc : w.cell? a = some v) (hne : a.block ≠ g) : wr.cell? a = some v := by
  rw [World.cell?_of_block (w := w) (h.block a.block (World.block_lt_of_cell? (h := hc)) (by simpa using hne))]; exact hc

theorem u64_or (a b : Nat) (ha : a < 18446744073709551616) (hb : b < 18446744073709551616) : bits .or .u64 (a : Int) (b : Int) = ((a ||| b : Nat) : Int) := u64_or_nat a b ha hb

set_option maxHeartbeats 800000 in
theorem merge_run (e p q g N c m s n W : Nat) (f : Nat → Nat) (w : World) (hf : ∀ i, f i < 18446744073709551616)
    (c1 : w.cell? ⟨p, 0, none⟩ = some (.bool false)) (c2 : w.cell? ⟨q, 0, none⟩ = some (.bool false)) (c3 : w.frozen? ⟨p, 0, none⟩ = false)
    (c4 : w.cell? ⟨p, 1, none⟩ = some (.int .i64 m)) (c5 : w.cell? ⟨q, 1, none⟩ = some (.int .i64 s)) (c6 : w.cell? ⟨e, 3, none⟩ = some (.slice (some ⟨g, 0, none⟩) N c))
    (hp : p ≠ g) (hq : q ≠ g) (he : e ≠ g)
    (hrow : w.rowIs g 34 N (rowV f)) (hn : n ≤ 4194304) (hW : ((n : Int) + 63) / 64 = (W : Int)) (hN : N ≤ 65536) (hm : m + W ≤ N) (hs : s + W ≤ N) :
    Calls Try.prog 18 #[.pointer (some ⟨e, 0, none⟩), .pointer (some ⟨p, 0, none⟩), .pointer (some ⟨q, 0, none⟩), .int .i64 n] w fun x w' => x = .returned (.tuple #[]) ∧ w'.rowIs g 34 N (rowV (mergeN f m s W)) ∧ (w.setCell ⟨p, 0, none⟩ (.bool false)).grownBy w' (some g) := by
  have d4 : (w.setCell ⟨p, 0, none⟩ (.bool false)).cell? ⟨p, 1, none⟩ = some (.int .i64 m) := (World.cell?_setCell_other _ _ _ _ (by simp)).trans c4
  have d5 : (w.setCell ⟨p, 0, none⟩ (.bool false)).cell? ⟨q, 1, none⟩ = some (.int .i64 s) := (World.cell?_setCell_other _ _ _ _ (by simp)).trans c5
  have d6 : (w.setCell ⟨p, 0, none⟩ (.bool false)).cell? ⟨e, 3, none⟩ = some (.slice (some ⟨g, 0, none⟩) N c) := (World.cell?_setCell_other _ _ _ _ (by simp)).trans c6
  have hrow1 : (w.setCell ⟨p, 0, none⟩ (.bool false)).rowIs g 34 N (rowV f) := hrow.setOther (fun h => hp h.symm) _
  have H4 : Hid ((w.setCell ⟨p, 0, none⟩ (.bool false)).cell? ⟨p, 1, none⟩ = some (.int .i64 m)) := d4
  have H5 : Hid ((w.setCell ⟨p, 0, none⟩ (.bool false)).cell? ⟨q, 1, none⟩ = some (.int .i64 s)) := d5
  have H6 : Hid ((w.setCell ⟨p, 0, none⟩ (.bool false)).cell? ⟨e, 3, none⟩ = some (.slice (some ⟨g, 0, none⟩) N c)) := d6
  have HR : Hid ((w.setCell ⟨p, 0, none⟩ (.bool false)).rowIs g 34 N (rowV f)) := hrow1
  clear d4 d5 d6 hrow1 hrow c4 c5 c6
  have hW0 : 0 ≤ (W : Int) := by omega
  go_enter Try.func18, Try.ntmps18
  go_wp2
  obtain ⟨w1, hw1⟩ : ∃ w1, w1 = w.setCell ⟨p, 0, none⟩ (.bool false) := ⟨_, rfl⟩
  rw [← hw1] at H4 H5 H6 HR ⊢
  have HW1 : Hid (w1 = w.setCell ⟨p, 0, none⟩ (.bool false)) := hw1
  clear hw1 c1 c2 c3
  go_loopw [29] (fun i wr => ∃ k : Nat, k ≤ W ∧ i = .int .i64 k ∧ wr.rowIs g 34 N (rowV (mergeN f m s k)) ∧ w1.grownBy wr (some g)) (fun i _ => W - (intOf i).toNat)
  case atStart => exact ⟨0, Nat.zero_le _, rfl, HR.out, grown_refl _ _⟩
  case round =>
    obtain ⟨k, hk, rfl, hrow, hgr⟩ := hrel
    by_cases hlt : k < W
    · have b4 : wr.cell? ⟨p, 1, none⟩ = some (.int .i64 m) := grown_cell hgr H4.out hp
      have b5 : wr.cell? ⟨q, 1, none⟩ = some (.int .i64 s) := grown_cell hgr H5.out hq
      have b6 : wr.cell? ⟨e, 3, none⟩ = some (.slice (some ⟨g, 0, none⟩) N c) := grown_cell hgr H6.out he
      have b7 : wr.cell? ⟨g, m + k, none⟩ = some (.int .u64 (mergeN f m s k (m + k) : Int)) := hrow.cell (by omega)
      have b8 : wr.cell? ⟨g, s + k, none⟩ = some (.int .u64 (mergeN f m s k (s + k) : Int)) := hrow.cell (by omega)
      have b9 : wr.frozen? ⟨g, m + k, none⟩ = false := hrow.frozen _
      have R : Hid ((wr.setCell ⟨g, m + k, none⟩ (.int .u64 (bits .or .u64 (mergeN f m s k (m + k) : Int) (mergeN f m s k (s + k) : Int)))).rowIs g 34 N (rowV (mergeN f m s (k + 1)))) :=
        (hrow.set (m + k) (.int .u64 (bits .or .u64 (mergeN f m s k (m + k) : Int) (mergeN f m s k (s + k) : Int)))).congr (fun i _ => by
          rw [u64_or _ _ (mergeN_lt hf k _) (mergeN_lt hf k _)]
          show (if i = m + k then _ else Value.int .u64 (mergeN f m s k i : Int)) = Value.int .u64 ((if i = m + k then mergeN f m s k (m + k) ||| mergeN f m s k (s + k) else mergeN f m s k i : Nat) : Int)
          by_cases ei : i = m + k
          · rw [if_pos ei, if_pos ei]
          · rw [if_neg ei, if_neg ei])
      have S : Hid (w1.grownBy (wr.setCell ⟨g, m + k, none⟩ (.int .u64 (bits .or .u64 (mergeN f m s k (m + k) : Int) (mergeN f m s k (s + k) : Int)))) (some g)) := grown_set hgr _ _
      clear hrow hgr
      go_wp2_with fail
      go_region
      clear b4 b5 b6 b7 b8 b9
      go_wp2
      go_roundw
      case rel => exact ⟨k + 1, by omega, by go_num, R.out.drew, grown_drew S.out⟩
      case measure => simp [intOf]; omega
    · have hkW : k = W := by omega
      have R : Hid (wr.rowIs g 34 N (rowV (mergeN f m s W))) := by rw [← hkW]; exact hrow
      clear hkW hrow
      go_wp2
      go_end0
      exact ⟨rfl, R.out, by rw [← HW1.out]; exact hgr⟩

set_option maxHeartbeats 400000 in
theorem merge_none (e p q : Nat) (w : World) (c1 : w.cell? ⟨p, 0, none⟩ = some (.bool false)) (c2 : w.cell? ⟨q, 0, none⟩ = some (.bool false)) (c3 : w.frozen? ⟨p, 0, none⟩ = false) :
    Calls Try.prog 18 #[.pointer (some ⟨e, 0, none⟩), .pointer (some ⟨p, 0, none⟩), .pointer (some ⟨q, 0, none⟩), .int .i64 0] w fun x w' => x = .returned (.tuple #[]) ∧ w' = w.setCell ⟨p, 0, none⟩ (.bool false) := by
  go_enter Try.func18, Try.ntmps18
  go_wp2
  go_loop [29] (fun i => i = .int .i64 0) (fun i => (intOf i).toNat)
  case atStart => rfl
  case round =>
    subst hrel
    go_wp2
    go_end0
    exact ⟨rfl, rfl⟩

section
variable (w : World) (E M F : Array Value) (t t' t'' : TypeId)
theorem zz_size1 : (w.alloc (.cells E t)).heap.size = w.heap.size + 1 := by simp
theorem zz_size2 : ((w.alloc (.cells E t)).alloc (.cells M t')).heap.size = w.heap.size + 1 + 1 := by simp
theorem zz_cellE (i : Nat) : (((w.alloc (.cells E t)).alloc (.cells M t')).alloc (.cells F t'')).cell? ⟨w.heap.size, i, none⟩ = E[i]? := by
  rw [World.cell?_alloc_past _ _ _ (by rw [zz_size2]; omega), World.cell?_alloc_past _ _ _ (by rw [zz_size1]; omega), World.cell?_alloc_at _ _ _ _ rfl]
theorem zz_cellM (i : Nat) : (((w.alloc (.cells E t)).alloc (.cells M t')).alloc (.cells F t'')).cell? ⟨w.heap.size + 1, i, none⟩ = M[i]? := by
  rw [World.cell?_alloc_past _ _ _ (by rw [zz_size2]; omega), World.cell?_alloc_at _ _ _ _ (zz_size1 w E t).symm]
theorem zz_cellF (i : Nat) : (((w.alloc (.cells E t)).alloc (.cells M t')).alloc (.cells F t'')).cell? ⟨w.heap.size + 1 + 1, i, none⟩ = F[i]? := by
  rw [World.cell?_alloc_at _ _ _ _ (zz_size2 w E M t t').symm]
theorem zz_freeM (i : Nat) : (((w.alloc (.cells E t)).alloc (.cells M t')).alloc (.cells F t'')).frozen? ⟨w.heap.size + 1, i, none⟩ = false := by
  rw [frozen?_alloc_cells, frozen?_alloc_cells, frozen?_alloc_cells]
  simp [World.frozen?]
end

/-- What lies behind the three new blocks of a merge and its stores: old blocks other than g as they were. -/
theorem zz_grown {w w5 : World} {E M F : Obj} {g p : Nat} {v : Value} (hp : w.heap.size ≤ p) (h : ((((w.alloc E).alloc M).alloc F).setCell ⟨p, 0, none⟩ v).grownBy w5 (some g)) : w.grownBy w5 (some g) := by
  have hb : Below w.heap.size w ((((w.alloc E).alloc M).alloc F).setCell ⟨p, 0, none⟩ v) :=
    ((((Below.refl _ w).alloc (Nat.le_refl _) E).alloc (by simp) M).alloc (by simp; omega) F).setCell hp v
  exact ⟨h.os.trans hb.os, h.tape.trans hb.tape, h.output.trans hb.output, Nat.le_trans hb.size h.size, fun k hk hne => (h.block k (Nat.lt_of_lt_of_le hk hb.size) hne).trans (hb.block k hk)⟩

set_option maxHeartbeats 800000 in
theorem zz_any (g N c m s n W : Nat) (mAll sAll : Bool) (f : Nat → Nat) (w : World) (hf : ∀ i, f i < 18446744073709551616) (hrow : w.rowIs g 34 N (rowV f)) (hn : n ≤ 4194304) (hW : ((n : Int) + 63) / 64 = (W : Int)) (hN : N ≤ 65536) (hm : m + W ≤ N) (hs : s + W ≤ N) :
    Calls Try.prog 15 #[.slice (some ⟨g, 0, none⟩) N c, .bool mAll, .int .i64 m, .bool sAll, .int .i64 s, .int .i64 n] w fun e w' => e = .returned (.bool (mAll || sAll)) ∧ w'.rowIs g 34 N (rowV (stepN (mAll || sAll) f m s W)) ∧ w.grownBy w' (some g) := by
  have hg := hrow.lt
  cases hall : (mAll || sAll) with
  | true =>
    go_enter Try.func15, Try.ntmps15
    go_wp2_with fail
    refine (merge_set w.heap.size (w.heap.size + 1) (w.heap.size + 1 + 1) n mAll sAll _ (zz_cellM _ _ _ _ _ _ _ 0) (zz_cellF _ _ _ _ _ _ _ 0) (zz_freeM _ _ _ _ _ _ _ 0) hall).mono ?_
    rintro e w5 ⟨rfl, hw5⟩
    have d1 : w5.cell? ⟨w.heap.size + 1, 0, none⟩ = some (.bool true) := by rw [hw5]; exact World.cell?_setCell_same _ _ _ (u := .bool mAll) (zz_cellM _ _ _ _ _ _ _ 0)
    have HG : Hid (w.grownBy w5 (some g)) := zz_grown (p := w.heap.size + 1) (v := .bool true) (by omega) (by rw [hw5]; exact grown_refl _ _)
    have HR : Hid (w5.rowIs g 34 N (rowV f)) := by rw [hw5]; exact (((hrow.alloc _).alloc _).alloc _).setOther (by show g ≠ w.heap.size + 1; omega) _
    clear hw5 hall
    go_wp2
    go_ret
    exact ⟨rfl, HR.out, HG.out⟩
  | false =>
    obtain ⟨rfl, rfl⟩ : mAll = false ∧ sAll = false := by simpa using hall
    clear hall
    go_enter Try.func15, Try.ntmps15
    go_wp2_with fail
    refine (merge_run w.heap.size (w.heap.size + 1) (w.heap.size + 1 + 1) g N c m s n W f _ hf (zz_cellM _ _ _ _ _ _ _ 0) (zz_cellF _ _ _ _ _ _ _ 0) (zz_freeM _ _ _ _ _ _ _ 0) (zz_cellM _ _ _ _ _ _ _ 1) (zz_cellF _ _ _ _ _ _ _ 1) (zz_cellE _ _ _ _ _ _ _ 3) (by omega) (by omega) (by omega) (by exact ((hrow.alloc _).alloc _).alloc _) hn hW hN hm hs).mono ?_
    rintro e w5 ⟨rfl, hrow5, hgr5⟩
    have d1 : w5.cell? ⟨w.heap.size + 1, 0, none⟩ = some (.bool false) := grown_cell hgr5 (World.cell?_setCell_same _ _ _ (u := .bool false) (zz_cellM _ _ _ _ _ _ _ 0)) (by show w.heap.size + 1 ≠ g; omega)
    have HG : Hid (w.grownBy w5 (some g)) := zz_grown (by omega) hgr5
    clear hgr5
    go_wp2
    go_ret
    exact ⟨rfl, hrow5, HG.out⟩
end Go.Proofs.Qxb6616441a
