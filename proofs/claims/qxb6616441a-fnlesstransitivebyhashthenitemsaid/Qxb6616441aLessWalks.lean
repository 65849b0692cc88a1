import Derived.Test.Qxb6616441aRows
import Derived.Test.Qxb6616441aOrder
import Derived.WalkKit
import Derived.WalkSpells
import Derived.WalkLawsBesides
import Derived.Deep.QuietTactic
import Derived.BigQuiet
namespace Go.Proofs.Qxb6616441a
open Go.RowKit

theorem ret_bool {a b : Bool} (h : a = b) : Ending.returned (.bool a) = .returned (.bool b) := by rw [h]
theorem ret_int {k : IntKind} {a b : Int} (h : a = b) : Ending.returned (.int k a) = .returned (.int k b) := by rw [h]

theorem drewN_twice (w : World) (a b : Nat) : (w.drewN a).drewN b = w.drewN (a + b) := by
  simp [World.drewN, Nat.add_assoc]

set_option maxHeartbeats 400000 in
theorem rank_any (g n cap : Nat) (h : Nat → Int) (a : Nat) (w : World) (hn : n ≤ 65536) (ha : a < n) (hc : ∀ i, i < n → w.cell? ⟨g, i, none⟩ = some (.int .u64 (h i))) :
    Calls Try.prog 10 #[.slice (some ⟨g, 0, none⟩) n cap, .int .i64 a] w fun e w' => e = .returned (.int .i64 (rank h a n)) ∧ ∃ q, w' = w.drewN q := by
  have ca := hc a ha
  go_enter Try.func10, Try.ntmps10
  go_wp2
  go_loopw [5, 6] (fun r i wr => ∃ k q : Nat, k ≤ n ∧ i = .int .i64 k ∧ r = .int .i64 (rank h a k) ∧ wr = w.drewN q) (fun _ i _ => n - (intOf i).toNat)
  case atStart => exact ⟨0, 0, Nat.zero_le _, rfl, rfl, rfl⟩
  case round =>
    obtain ⟨k, q, hk, rfl, rfl, rfl⟩ := hrel
    have hr := rank_le h a k
    by_cases hlt : k < n
    · have ck := hc k hlt
      have HR : Hid (rank h a (k + 1) = rank h a k + if lessB h k a then 1 else 0) := rfl
      by_cases h1 : h k < h a
      · have HL : Hid (lessB h k a = true) := (lessB_iff _ _ _).2 (.inl h1)
        go_wp2_with fail
        go_quiet (fail)
        go_wp2
        go_roundw
        case rel => exact ⟨k + 1, q + nq, by omega, by go_num, by rw [HR.out, HL.out]; go_num, rfl⟩
        case measure => simp [intOf]; omega
      · have h1' : decide (h k < h a) = false := by simpa using h1
        by_cases h2 : h k = h a
        · have h2' : (h k == h a) = true := by simpa using h2
          by_cases h3 : k < a
          · have HL : Hid (lessB h k a = true) := (lessB_iff _ _ _).2 (.inr ⟨h2, h3⟩)
            clear h2
            go_wp2_with fail
            go_quiet (fail)
            go_wp2
            go_roundw
            case rel => exact ⟨k + 1, q + nq, by omega, by go_num, by rw [HR.out, HL.out]; go_num, rfl⟩
            case measure => simp [intOf]; omega
          · have HL : Hid (¬ lessB h k a = true) := fun e => by rw [lessB_iff] at e; omega
            clear h2
            go_wp2_with fail
            go_quiet (fail)
            go_wp2
            go_roundw
            case rel => exact ⟨k + 1, q + nq, by omega, by go_num, by rw [HR.out, if_neg HL.out]; go_num, rfl⟩
            case measure => simp [intOf]; omega
        · have h2' : (h k == h a) = false := by simpa using h2
          have HL : Hid (¬ lessB h k a = true) := fun e => by rw [lessB_iff] at e; omega
          clear h2
          go_wp2_with fail
          go_quiet (fail)
          go_wp2
          go_roundw
          case rel => exact ⟨k + 1, q + nq, by omega, by go_num, by rw [HR.out, if_neg HL.out]; go_num, rfl⟩
          case measure => simp [intOf]; omega
    · have hkn : k = n := by omega
      have HK : Hid (rank h a k = rank h a n) := by rw [hkn]; exact rfl
      clear hkn
      go_wp2
      go_ret
      exact ⟨ret_int (by rw [HK.out]), q, rfl⟩

set_option maxHeartbeats 800000 in
theorem less_any (d gh go n m ch co : Nat) (h : Nat → Int) (i j a b : Nat) (w : World) (hi : i < m) (hj : j < m) (ha : a < n) (hb : b < n)
    (c1 : w.cell? ⟨d, 1, none⟩ = some (.slice (some ⟨gh, 0, none⟩) n ch)) (c2 : w.cell? ⟨d, 2, none⟩ = some (.slice (some ⟨go, 0, none⟩) m co))
    (ci : w.cell? ⟨go, i, none⟩ = some (.int .i64 a)) (cj : w.cell? ⟨go, j, none⟩ = some (.int .i64 b))
    (ca : w.cell? ⟨gh, a, none⟩ = some (.int .u64 (h a))) (cb : w.cell? ⟨gh, b, none⟩ = some (.int .u64 (h b))) :
    Calls Try.prog 9 #[.pointer (some ⟨d, 0, none⟩), .int .i64 i, .int .i64 j] w fun e w' => e = .returned (.bool (lessB h a b)) ∧ ∃ q, w' = w.drewN q := by
  have H (r : Bool) (hr : lessB h a b = r) : Hid (lessB h a b = r) := hr
  by_cases h1 : h a < h b
  · have HL := H true ((lessB_iff _ _ _).2 (.inl h1))
    clear H
    go_enter Try.func9, Try.ntmps9
    go_wp2_with fail
    go_quiet (fail)
    go_wp2_with fail
    go_quiet (fail)
    go_wp2
    go_ret
    exact ⟨ret_bool HL.out.symm, _, drewN_twice _ _ _⟩
  · have h1' : decide (h a < h b) = false := by simpa using h1
    by_cases h2 : h a = h b
    · have h2' : (h a == h b) = true := by simpa using h2
      by_cases h3 : a < b
      · have HL := H true ((lessB_iff _ _ _).2 (.inr ⟨h2, h3⟩))
        clear h2 H
        go_enter Try.func9, Try.ntmps9
        go_wp2_with fail
        go_quiet (fail)
        go_wp2_with fail
        go_quiet (fail)
        go_wp2
        go_ret
        exact ⟨ret_bool HL.out.symm, _, drewN_twice _ _ _⟩
      · have HL := H false (by cases e : lessB h a b with | false => rfl | true => rw [lessB_iff] at e; omega)
        clear h2 H
        go_enter Try.func9, Try.ntmps9
        go_wp2_with fail
        go_quiet (fail)
        go_wp2_with fail
        go_quiet (fail)
        go_wp2
        go_ret
        exact ⟨ret_bool HL.out.symm, _, drewN_twice _ _ _⟩
    · have h2' : (h a == h b) = false := by simpa using h2
      have HL := H false (by cases e : lessB h a b with | false => rfl | true => rw [lessB_iff] at e; omega)
      clear h2 H
      go_enter Try.func9, Try.ntmps9
      go_wp2_with fail
      go_quiet (fail)
      go_wp2_with fail
      go_quiet (fail)
      go_wp2
      go_ret
      exact ⟨ret_bool HL.out.symm, _, drewN_twice _ _ _⟩
end Go.Proofs.Qxb6616441a
