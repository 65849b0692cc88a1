import Derived.Test.Qxb6616264aFmtErr
import Derived.Deep.QuietTactic
import Derived.BigQuiet
namespace Go.Proofs.Qxb6616264aFmt
open Go.RowKit

/-- The script in memory: element k of the slice holds the strings fs k and ks k. -/
structure Script (w : World) (b off len : Nat) (fs ks : Nat → ByteArray) : Prop where
  field : ∀ k, k < len → w.cell? ⟨b, off + k * 2, none⟩ = some (.string (fs k))
  kind : ∀ k, k < len → w.cell? ⟨b, off + k * 2 + 1, none⟩ = some (.string (ks k))
  fsz : ∀ k, k < len → (fs k).size ≤ 9223372036854775807
  ksz : ∀ k, k < len → (ks k).size ≤ 9223372036854775807

/-- The call ends with a bool. -/
def RetBool (e : Ending) : Prop := ∃ r, e = .returned (.bool r)

set_option maxHeartbeats 400000 in
theorem bytes_pos (b off len cap : Nat) (fs ks : Nat → ByteArray) (w : World) (hl : len ≤ 9223372036854775807) (hp : 0 < len) (hs : Script w b off len fs ks) :
    Calls Tryf.prog 4 #[.slice (some ⟨b, off, none⟩) len cap] w fun e w' => RetBool e ∧ w' = w := by
  by_cases hbig : len ≤ 1048576
  · go_enter Tryf.func4, Tryf.ntmps4
    go_wp2
    go_loop [3, 4] (fun z i => ∃ (k : Nat) (n : Int), k ≤ len ∧ 0 ≤ n ∧ n ≤ 1048576 ∧ i = .int .i64 k ∧ z = .int .i64 n) (fun _ i => len - (intOf i).toNat)
    case atStart => exact ⟨0, len, Nat.zero_le _, by omega, by omega, rfl, rfl⟩
    case round =>
      obtain ⟨k, n, hk, hn0, hn1, rfl, rfl⟩ := hrel
      by_cases hlt : k < len
      · have hf := hs.field k hlt
        have hg := hs.kind k hlt
        have h1 := hs.fsz k hlt
        have h2 := hs.ksz k hlt
        go_wp2
        · go_ret; exact ⟨⟨_, rfl⟩, rfl⟩
        · go_ret; exact ⟨⟨_, rfl⟩, rfl⟩
        · go_ret; exact ⟨⟨_, rfl⟩, rfl⟩
        · go_ret; exact ⟨⟨_, rfl⟩, rfl⟩
        · go_round
          case rel => exact ⟨k + 1, n + (fs k).size + (ks k).size, by omega, by omega, by omega, by go_num, rfl⟩
          case measure => simp [intOf]; omega
      · go_wp2
        go_ret
        exact ⟨⟨_, rfl⟩, rfl⟩
  · go_enter Tryf.func4, Tryf.ntmps4
    go_wp2
    go_ret
    exact ⟨⟨_, rfl⟩, rfl⟩

set_option maxHeartbeats 400000 in
theorem bytes_zero (a : Option Addr) (cap : Nat) (w : World) :
    Calls Tryf.prog 4 #[.slice a 0 cap] w fun e w' => RetBool e ∧ w' = w := by
  go_enter Tryf.func4, Tryf.ntmps4
  go_wp2
  go_loop [4] (fun i => i = .int .i64 0) (fun i => (intOf i).toNat)
  case atStart => rfl
  case round =>
    subst hrel
    go_wp2
    go_ret
    exact ⟨⟨_, rfl⟩, rfl⟩

set_option maxHeartbeats 400000 in
theorem big_zero (a : Option Addr) (cap : Nat) (w : World) :
    Calls Tryf.prog 5 #[.slice a 0 cap] w fun e w' => RetBool e ∧ ∃ n, w' = w.drewN n := by
  go_enter Tryf.func5, Tryf.ntmps5
  go_wp2
  go_loop [4] (fun i => i = .int .i64 0) (fun i => (intOf i).toNat)
  case atStart => rfl
  case round =>
    subst hrel
    go_wp2
    go_ret
    exact ⟨⟨_, rfl⟩, 0, rfl⟩

set_option maxHeartbeats 400000 in
theorem big_pos (b off len cap : Nat) (fs ks : Nat → ByteArray) (w : World) (hl : len ≤ 9223372036854775807) (hp : 0 < len) (hs : Script w b off len fs ks) :
    Calls Tryf.prog 5 #[.slice (some ⟨b, off, none⟩) len cap] w fun e w' => RetBool e ∧ ∃ n, w' = w.drewN n := by
  go_enter Tryf.func5, Tryf.ntmps5
  go_wp2
  go_loopw [3, 4] (fun z i wr => ∃ (k : Nat) (n : Int) (q : Nat), k ≤ len ∧ 0 ≤ n ∧ n ≤ 1048576 ∧ i = .int .i64 k ∧ z = .int .i64 n ∧ wr = w.drewN q) (fun _ i _ => len - (intOf i).toNat)
  case atStart => exact ⟨0, 0, 0, Nat.zero_le _, by omega, by omega, rfl, rfl, rfl⟩
  case round =>
    obtain ⟨k, n, q, hk, hn0, hn1, rfl, rfl, rfl⟩ := hrel
    by_cases hlt : k < len
    · have hf := hs.field k hlt
      have hg := hs.kind k hlt
      have h1 := hs.fsz k hlt
      have h2 := hs.ksz k hlt
      go_wp2
      · go_ret; exact ⟨⟨_, rfl⟩, q, rfl⟩
      · go_quiet (fail)
        go_wp2
        · go_ret; exact ⟨⟨_, rfl⟩, q + nq, rfl⟩
        · go_roundw
          case rel => exact ⟨k + 1, n + (32 + (fs k).size + (ks k).size), q + nq, by omega, by omega, by omega, by go_num, rfl, rfl⟩
          case measure => simp [intOf]; omega
      · go_ret; exact ⟨⟨_, rfl⟩, q, rfl⟩
    · go_wp2
      go_ret
      exact ⟨⟨_, rfl⟩, q, rfl⟩
end Go.Proofs.Qxb6616264aFmt
