import Derived.Test.Qxb6616264aFmtSize
import Derived.Deep.RegionWith
namespace Go.Proofs.Qxb6616264aFmt
open Go.RowKit Go.Extern.Stop Go.Stop Go.Extern

/-- Was a kind given among the first k calls? -/
def anyK (ks : Nat → ByteArray) : Nat → Bool
  | 0 => false
  | k + 1 => anyK ks k || decide (0 < (ks k).size)

theorem Rdr.drew {w : World} {b : Nat} {v : Value} (h : Rdr w b v) : Rdr w.drew b v := ⟨h.lt, h.notObj, h.err, h.free, h.msgs, h.bad, h.inp⟩

set_option maxHeartbeats 400000 in
theorem law_pos (F : Interp) (b off len cap : Nat) (fs ks : Nat → ByteArray) (w : World) (hF : F.answers w.tape) (hb : b < w.heap.size) (hl : len ≤ 9223372036854775807) (hp : 0 < len) (hs : Script w b off len fs ks) :
    Calls Tryf.prog 3 #[.slice (some ⟨b, off, none⟩) len cap] w fun e w' => e = .returned (.bool true) ∧ Below w.heap.size w w' := by
  go_enter Tryf.func3, Tryf.ntmps3
  go_wp2_with fail
  refine (bytes_pos b off len cap fs ks _ hl hp hs).mono ?_
  rintro e w1 ⟨⟨r, rfl⟩, rfl⟩
  cases r with
  | false =>
    go_wp2
    go_ret
    exact ⟨rfl, Below.refl _ _⟩
  | true =>
    go_wp2_with fail
    refine (big_pos b off len cap fs ks _ hl hp hs).mono ?_
    rintro e w2 ⟨⟨r, rfl⟩, q, rfl⟩
    cases r with
    | true =>
      go_wp2
      go_ret
      exact ⟨rfl, below_drewN (Below.refl _ _) _⟩
    | false =>
      go_wp2_with fail
      refine (new_any _).mono ?_
      rintro e w3 ⟨rfl, hr, hbel⟩
      have hbel' : Below w1.heap.size w1 w3 := (below_drewN (Below.refl _ w1) q).trans hbel
      clear hbel
      have hb1 : w1.heap.size ≤ w1.heap.size + 1 := Nat.le_succ _
      go_wp2
      go_loopw [4, 5] (fun z i wr => ∃ (k : Nat) (v : Value), k ≤ len ∧ i = .int .i64 k ∧ z = .bool (anyK ks k) ∧ Rdr wr (w1.heap.size + 1) v ∧ Held (anyK ks k) v ∧ Below w1.heap.size w1 wr) (fun _ i _ => len - (intOf i).toNat)
      case atStart => exact ⟨0, .nilIface, Nat.zero_le _, rfl, rfl, hr, rfl, hbel'⟩
      case round =>
        obtain ⟨k, v, hk, rfl, rfl, hr, hv, hbel⟩ := hrel
        by_cases hlt : k < len
        · have hf : wr.cell? ⟨b, off + k * 2, none⟩ = some (.string (fs k)) := (hbel.cell (p := ⟨b, off + k * 2, none⟩) hb).trans (hs.field k hlt)
          have hg : wr.cell? ⟨b, off + k * 2 + 1, none⟩ = some (.string (ks k)) := (hbel.cell (p := ⟨b, off + k * 2 + 1, none⟩) hb).trans (hs.kind k hlt)
          have h2 := hs.ksz k hlt
          have hFr : F.answers wr.tape := by rw [hbel.tape]; exact hF
          by_cases hz : 0 < (ks k).size
          · have HE : Hid (anyK ks (k + 1) = (anyK ks k || decide (0 < (ks k).size))) := rfl
            have HD : Hid (decide (0 < (ks k).size) = true) := by simpa [Hid] using hz
            go_wp2
            go_region_with (go_at_call 7; refine (zzwrong_any F (fs k) (ks k) (w1.heap.size + 1) (anyK ks k) v _ (by exact hFr) (by exact hr.drew) hv).mono ?_; rintro e w4 ⟨rfl, v4, hr4, hv4, hb4⟩)
            all_goals
              have hb5 : Below w1.heap.size w1 w4 := (hbel.drew).trans (hb4.mono hb1)
              have HV : Hid (Held (anyK ks (k + 1)) v4) := by rw [HE.out]; exact hv4
              have HZ : Hid (anyK ks (k + 1) = true) := by rw [HE.out, HD.out, Bool.or_true]; exact rfl
              clear hv4 hr hb4 hf hg
              go_wp2
              go_roundw
              case rel => exact ⟨k + 1, v4, by omega, by go_num, by rw [HZ.out], hr4, HV.out, hb5⟩
              case measure => simp [intOf]; omega
          · have HE : Hid (anyK ks (k + 1) = (anyK ks k || decide (0 < (ks k).size))) := rfl
            have HD : Hid (decide (0 < (ks k).size) = false) := by simpa [Hid] using hz
            go_wp2
            go_region_with (go_at_call 7; refine (zzwrong_any F (fs k) (ks k) (w1.heap.size + 1) (anyK ks k) v _ (by exact hFr) (by exact hr.drew) hv).mono ?_; rintro e w4 ⟨rfl, v4, hr4, hv4, hb4⟩)
            all_goals
              have hb5 : Below w1.heap.size w1 w4 := (hbel.drew).trans (hb4.mono hb1)
              have HV : Hid (Held (anyK ks (k + 1)) v4) := by rw [HE.out]; exact hv4
              have HZ : Hid (anyK ks (k + 1) = anyK ks k) := by rw [HE.out, HD.out, Bool.or_false]; exact rfl
              clear hv4 hr hb4 hf hg
              go_wp2
              go_roundw
              case rel => exact ⟨k + 1, v4, by omega, by go_num, by rw [HZ.out], hr4, HV.out, hb5⟩
              case measure => simp [intOf]; omega
        · have c6 := hr.notObj
          have c7 := hr.err
          have c8 := hr.msgs
          have c9 := hr.bad
          have c10 := hr.inp
          cases hany : anyK ks k with
          | true =>
            rw [hany] at hv
            obtain ⟨x, rfl⟩ : ∃ x, v = .iface 52 x := hv
            go_wp2
            go_ret
            exact ⟨rfl, hbel⟩
          | false =>
            rw [hany] at hv
            obtain rfl : v = .nilIface := hv
            go_wp2
            go_ret
            exact ⟨rfl, hbel⟩

set_option maxHeartbeats 400000 in
theorem law_zero (a : Option Addr) (cap : Nat) (w : World) :
    Calls Tryf.prog 3 #[.slice a 0 cap] w fun e w' => e = .returned (.bool true) ∧ Below w.heap.size w w' := by
  go_enter Tryf.func3, Tryf.ntmps3
  go_wp2_with fail
  refine (bytes_zero a cap _).mono ?_
  rintro e w1 ⟨⟨r, rfl⟩, rfl⟩
  cases r with
  | false =>
    go_wp2
    go_ret
    exact ⟨rfl, Below.refl _ _⟩
  | true =>
    go_wp2_with fail
    refine (big_zero a cap _).mono ?_
    rintro e w2 ⟨⟨r, rfl⟩, q, rfl⟩
    cases r with
    | true =>
      go_wp2
      go_ret
      exact ⟨rfl, below_drewN (Below.refl _ _) _⟩
    | false =>
      go_wp2_with fail
      refine (new_any _).mono ?_
      rintro e w3 ⟨rfl, hr, hbel⟩
      have hbel' : Below w1.heap.size w1 w3 := (below_drewN (Below.refl _ w1) q).trans hbel
      clear hbel
      have c6 : w3.cell? ⟨w1.heap.size + 1, 6, none⟩ = some (.bool false) := hr.notObj
      have c7 : w3.cell? ⟨w1.heap.size + 1, 7, none⟩ = some .nilIface := hr.err
      have c8 : w3.cell? ⟨w1.heap.size + 1, 8, none⟩ = some (.int .i64 0) := hr.msgs
      have c9 : w3.cell? ⟨w1.heap.size + 1, 9, none⟩ = some (.int .i64 (-1)) := hr.bad
      have c10 : w3.cell? ⟨w1.heap.size + 1, 10, none⟩ = some (.bool false) := hr.inp
      clear hr
      go_wp2
      go_loop [4, 5] (fun z i => z = .bool false ∧ i = .int .i64 0) (fun _ i => (intOf i).toNat)
      case atStart => exact ⟨rfl, rfl⟩
      case round =>
        obtain ⟨rfl, rfl⟩ := hrel
        go_wp2
        go_ret
        exact ⟨rfl, hbel'⟩
end Go.Proofs.Qxb6616264aFmt
