import Derived.Test.Qxb6616441aRows
import Derived.Test.Qxb6616441aMergePlain
import Derived.WalkKit
import Derived.WalkSpells
import Derived.WalkLawsBesides
import Derived.Laws.BitsAllLaws
import Derived.Deep.OwnRows
import Derived.Deep.QuietTactic
import Derived.BigQuiet
import Derived.BigRegion
namespace Go.Proofs.Qxb6616441a
open Go.RowKit

/-- The call ends with a bool. -/
def EndsBool (e : Ending) : Prop := ∃ r, e = .returned (.bool r)
theorem end_bool {a b : Bool} (h : a = b) : Ending.returned (.bool a) = .returned (.bool b) := by rw [h]

set_option maxHeartbeats 400000 in
theorem bytes12_any (a : Option Addr) (len cap : Nat) (b1 b2 : Bool) (i1 i2 i3 i4 : Int) (w : World) (h : len ≤ 9223372036854775807) :
    Calls Try.prog 12 #[.slice a len cap, .bool b1, .int .i64 i1, .bool b2, .int .i64 i2, .int .i64 i3, .int .i64 i4] w fun e w' => EndsBool e ∧ w' = w := by
  go_enter Try.func12, Try.ntmps12
  go_wp2
  all_goals (go_ret; exact ⟨⟨_, rfl⟩, rfl⟩)

set_option maxHeartbeats 400000 in
theorem bytes17_any (a : Option Addr) (len cap : Nat) (b1 b2 b3 : Bool) (i1 i2 i3 i4 : Int) (w : World) (h : len ≤ 9223372036854775807) :
    Calls Try.prog 17 #[.slice a len cap, .bool b1, .int .i64 i1, .bool b2, .int .i64 i2, .bool b3, .int .i64 i3, .int .i64 i4] w fun e w' => EndsBool e ∧ w' = w := by
  go_enter Try.func17, Try.ntmps17
  go_wp2
  all_goals (go_ret; exact ⟨⟨_, rfl⟩, rfl⟩)

/-- Are the two regions the same or apart? -/
def apB (x y W : Int) : Bool := decide (x = y ∨ x + W ≤ y ∨ y + W ≤ x)
theorem apB_iff (x y W : Int) : apB x y W = true ↔ (x = y ∨ x + W ≤ y ∨ y + W ≤ x) := by simp [apB]

set_option maxHeartbeats 400000 in
theorem apart_any (x y W : Int) (w : World) (hx : 0 ≤ x) (hx' : x ≤ 65536) (hy : 0 ≤ y) (hy' : y ≤ 65536) (hW : 0 ≤ W) (hW' : W ≤ 65537) :
    Calls Try.prog 13 #[.int .i64 x, .int .i64 y, .int .i64 W] w fun e w' => e = .returned (.bool (apB x y W)) ∧ w' = w := by
  by_cases h1 : x = y
  · have HB : Hid (apB x y W = true) := (apB_iff _ _ _).2 (.inl h1)
    have h1' : (x == y) = true := by simpa using h1
    clear h1
    go_enter Try.func13, Try.ntmps13
    go_wp2
    go_ret
    exact ⟨end_bool HB.out.symm, rfl⟩
  · have h1' : (x == y) = false := by simpa using h1
    by_cases h2 : x + W ≤ y
    · have HB : Hid (apB x y W = true) := (apB_iff _ _ _).2 (.inr (.inl h2))
      clear h1
      go_enter Try.func13, Try.ntmps13
      go_wp2
      go_ret
      exact ⟨end_bool HB.out.symm, rfl⟩
    · have hb0 : apB x y W = decide (y + W ≤ x) := by unfold apB; simp [h1, h2]
      have HB : Hid (apB x y W = decide (y + W ≤ x)) := hb0
      clear hb0
      have h2' : decide (x + W ≤ y) = false := by simpa using h2
      clear h1
      go_enter Try.func13, Try.ntmps13
      go_wp2
      go_ret
      exact ⟨end_bool HB.out.symm, rfl⟩

theorem Try.inf34 : (Try.prog.info? 34).map (fun i => (i.zero, i.size, i.bytes)) = some (some (.int .u64 0), 1, 8) := by kernel_rfl

/-- A row of uint64 words, cell i holding f i. -/
abbrev rowV (f : Nat → Nat) : Nat → Value := fun i => .int .u64 (f i : Int)


set_option maxHeartbeats 400000 in
theorem eq_any (g g' N c c' : Nat) (f f' : Nat → Nat) (w : World) (hN : N ≤ 65536) (h : w.rowIs g 34 N (rowV f)) (h' : w.rowIs g' 34 N (rowV f')) (he : ∀ i, i < N → f i = f' i) :
    Calls Try.prog 16 #[.slice (some ⟨g, 0, none⟩) N c, .slice (some ⟨g', 0, none⟩) N c'] w fun e w' => e = .returned (.bool true) ∧ ∃ q, w' = w.drewN q := by
  go_enter Try.func16, Try.ntmps16
  go_wp2
  go_loopw [5] (fun i wr => ∃ k q : Nat, k ≤ N ∧ i = .int .i64 k ∧ wr = w.drewN q) (fun i _ => N - (intOf i).toNat)
  case atStart => exact ⟨0, 0, Nat.zero_le _, rfl, rfl⟩
  case round =>
    obtain ⟨k, q, hk, rfl, rfl⟩ := hrel
    by_cases hlt : k < N
    · have c1 : w.cell? ⟨g, k, none⟩ = some (.int .u64 (f k : Int)) := h.cell hlt
      have c2 : w.cell? ⟨g', k, none⟩ = some (.int .u64 (f k : Int)) := by rw [he k hlt]; exact h'.cell hlt
      go_wp2_with fail
      go_quiet (fail)
      go_wp2
      go_roundw
      case rel => exact ⟨k + 1, q + nq, by omega, by go_num, rfl⟩
      case measure => simp [intOf]; omega
    · go_wp2
      go_ret
      exact ⟨rfl, q, rfl⟩

set_option maxHeartbeats 400000 in
theorem eq_zero (a a' : Option Addr) (c c' : Nat) (w : World) :
    Calls Try.prog 16 #[.slice a 0 c, .slice a' 0 c'] w fun e w' => e = .returned (.bool true) ∧ ∃ q, w' = w.drewN q := by
  go_enter Try.func16, Try.ntmps16
  go_wp2
  go_loop [5] (fun i => i = .int .i64 0) (fun i => (intOf i).toNat)
  case atStart => rfl
  case round =>
    subst hrel
    go_wp2
    go_ret
    exact ⟨rfl, 0, rfl⟩

set_option maxHeartbeats 400000 in
theorem clone_pos (b off N cap : Nat) (f : Nat → Nat) (w : World) (hN : N ≤ 65536) (hc : ∀ i, i < N → w.cell? ⟨b, off + i, none⟩ = some (.int .u64 (f i : Int))) (hb : b < w.heap.size) :
    Calls Try.prog 14 #[.slice (some ⟨b, off, none⟩) N cap] w fun e w' => e = .returned (.slice (some ⟨w.heap.size, 0, none⟩) N N) ∧ w'.rowIs w.heap.size 34 N (rowV f) ∧ Below w.heap.size w w' := by
  have hmk := run_make_row' (P := Try.prog) 22 34 (.int .u64 0) 8 Try.underlying22 Try.inf34 rfl .i64 .i64 N (by omega) (by omega)
  have hn22 := fun (wx : World) (a : Option Addr) (n c : Nat) => Lib.run_eql_slice_nil (P := Try.prog) wx 22 34 a n c 0 0 Try.underlying22
  go_enter Try.func14, Try.ntmps14
  go_wp2
  go_loopw [4] (fun i wr => ∃ k : Nat, k ≤ N ∧ i = .int .i64 k ∧ wr.rowIs w.heap.size 34 N (fun i => if i < k then .int .u64 (f i : Int) else .int .u64 0) ∧ Below w.heap.size w wr) (fun i _ => N - (intOf i).toNat)
  case atStart => exact ⟨0, Nat.zero_le _, rfl, (World.rowIs_made w (.int .u64 0) N 34).congr (fun i _ => by simp), (Below.refl _ _).alloc (Nat.le_refl _) _⟩
  case round =>
    obtain ⟨k, hk, rfl, hrow, hbel⟩ := hrel
    by_cases hlt : k < N
    · have c1 : wr.cell? ⟨b, off + k, none⟩ = some (.int .u64 (f k : Int)) := (hbel.cell (p := ⟨b, off + k, none⟩) hb).trans (hc k hlt)
      have c2 : ∃ v, wr.cell? ⟨w.heap.size, k, none⟩ = some v := ⟨_, hrow.cell hlt⟩
      have c3 : wr.frozen? ⟨w.heap.size, k, none⟩ = false := hrow.frozen k
      obtain ⟨v, c2⟩ := c2
      have R : Hid ((wr.setCell ⟨w.heap.size, k, none⟩ (.int .u64 (f k : Int))).rowIs w.heap.size 34 N (fun i => if i < k + 1 then .int .u64 (f i : Int) else .int .u64 0)) :=
        (hrow.set k (.int .u64 (f k : Int))).congr (fun i _ => by
          by_cases e : i = k
          · subst e; simp
          · by_cases h2 : i < k
            · simp [e, h2, Nat.lt_succ_of_lt h2]
            · have : ¬ i < k + 1 := by omega
              simp [e, h2, this])
      have S : Hid (Below w.heap.size w (wr.setCell ⟨w.heap.size, k, none⟩ (.int .u64 (f k : Int)))) := hbel.setCell (Nat.le_refl _) _
      clear hrow hbel
      go_wp2
      go_roundw
      case rel => exact ⟨k + 1, by omega, by go_num, R.out, S.out⟩
      case measure => simp [intOf]; omega
    · have hkN : k = N := by omega
      have R : Hid (wr.rowIs w.heap.size 34 N (rowV f)) := hrow.congr (fun i hi => by rw [if_pos (by omega)])
      clear hkN hrow
      go_wp2
      go_ret
      exact ⟨rfl, R.out, hbel⟩

set_option maxHeartbeats 400000 in
theorem clone_zero (a : Option Addr) (cap : Nat) (w : World) :
    Calls Try.prog 14 #[.slice a 0 cap] w fun e w' => (∃ a' c', e = .returned (.slice a' 0 c')) ∧ Below w.heap.size w w' := by
  have hmk : ∀ w, (Instr.makeSlice 22 (.int .i64 0) (.int .i64 0)).run Try.prog w = .ok (.slice (some ⟨w.heap.size, 0, none⟩) 0 0) (w.alloc (.cells #[] 34)) := fun _ => by kernel_rfl
  have hn22 := fun (wx : World) (a : Option Addr) (n c : Nat) => Lib.run_eql_slice_nil (P := Try.prog) wx 22 34 a n c 0 0 Try.underlying22
  cases a with
  | none =>
    go_enter Try.func14, Try.ntmps14
    go_wp2
    go_ret
    exact ⟨⟨_, _, rfl⟩, Below.refl _ _⟩
  | some x =>
    go_enter Try.func14, Try.ntmps14
    go_wp2
    go_loop [4] (fun i => i = .int .i64 0) (fun i => (intOf i).toNat)
    case atStart => rfl
    case round =>
      subst hrel
      go_wp2
      go_ret
      exact ⟨⟨_, _, rfl⟩, (Below.refl _ _).alloc (Nat.le_refl _) _⟩
end Go.Proofs.Qxb6616441a
