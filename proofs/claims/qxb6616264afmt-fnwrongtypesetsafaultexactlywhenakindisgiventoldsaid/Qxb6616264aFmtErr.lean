import Derived.Test.Qxb6616264aFmtFacts
namespace Go.Proofs.Qxb6616264aFmt
open Go.RowKit Go.Extern.Stop Go.Stop Go.Extern
attribute [local go_sem] Tryf.call16 Tryf.guard Tryf.fmt0 Tryf.fmt0r Tryf.op9_115 Tryf.op9_115w Tryf.ptr52 Tryf.elem52

set_option maxHeartbeats 400000 in
theorem typeError_any (F : Interp) (a b : ByteArray) (w : World) (hF : F.answers w.tape) :
    Calls Tryf.prog 14 #[.string a, .string b] w fun e w' => ∃ x, e = .returned (.iface 52 x) ∧ Below w.heap.size w w' := by
  have hF' : ∀ i name reading k range, w.tape i (.extern (word name reading k) range) = F name reading k := hF
  go_enter Tryf.func14, Tryf.ntmps14
  go_wp2
  go_ret
  exact ⟨_, rfl, (((Below.refl _ _).alloc (Nat.le_refl _) _).alloc (by simp) _).drew⟩

/-- The request reader in block b: none of its other findings has moved; its typeErr field holds v. -/
structure Rdr (w : World) (b : Nat) (v : Value) : Prop where
  lt : b < w.heap.size
  notObj : w.cell? ⟨b, 6, none⟩ = some (.bool false)
  err : w.cell? ⟨b, 7, none⟩ = some v
  free : w.frozen? ⟨b, 7, none⟩ = false
  msgs : w.cell? ⟨b, 8, none⟩ = some (.int .i64 0)
  bad : w.cell? ⟨b, 9, none⟩ = some (.int .i64 (-1))
  inp : w.cell? ⟨b, 10, none⟩ = some (.bool false)

set_option maxHeartbeats 400000 in
theorem new_any (w : World) :
    Calls Tryf.prog 6 #[] w fun e w' => e = .returned (.pointer (some ⟨w.heap.size + 1, 0, none⟩)) ∧ Rdr w' (w.heap.size + 1) .nilIface ∧ Below w.heap.size w w' := by
  go_enter Tryf.func6, Tryf.ntmps6
  go_wp2
  go_ret
  refine ⟨rfl, ⟨by simp, by simp, by simp, by simp, by simp, by simp, by simp⟩, ?_⟩
  exact ((Below.refl _ _).alloc (Nat.le_refl _) _).alloc (by simp) _

set_option maxHeartbeats 400000 in
theorem wrong_none (f : ByteArray) (b : Nat) (w : World) :
    Calls Tryf.prog 13 #[.pointer (some ⟨b, 0, none⟩), .string f, .string ByteArray.empty] w fun e w' => e = .returned (.tuple #[]) ∧ w' = w := by
  go_enter Tryf.func13, Tryf.ntmps13
  go_wp2
  go_end0
  exact ⟨rfl, rfl⟩

set_option maxHeartbeats 400000 in
theorem wrong_held (f kd : ByteArray) (b : Nat) (x : Value) (w : World) (hk : kd.toList.isEmpty = false) (hc : w.cell? ⟨b, 7, none⟩ = some (.iface 52 x)) :
    Calls Tryf.prog 13 #[.pointer (some ⟨b, 0, none⟩), .string f, .string kd] w fun e w' => e = .returned (.tuple #[]) ∧ w' = w := by
  go_enter Tryf.func13, Tryf.ntmps13
  go_wp2
  go_end0
  exact ⟨rfl, rfl⟩

/-- The reader behind a call that made memory and then stored an error. -/
theorem Rdr.step {w w1 : World} {b : Nat} {v u : Value} (hr : Rdr w b v) (hb : Below w.heap.size w w1) : Rdr (w1.setCell ⟨b, 7, none⟩ u) b u := by
  have hc : ∀ o, w1.cell? ⟨b, o, none⟩ = w.cell? ⟨b, o, none⟩ := fun o => hb.cell (p := ⟨b, o, none⟩) hr.lt
  have hf : ∀ o, w1.frozen? ⟨b, o, none⟩ = w.frozen? ⟨b, o, none⟩ := fun o => hb.frozen (p := ⟨b, o, none⟩) hr.lt
  have h7 : w1.cell? ⟨b, 7, none⟩ = some v := (hc 7).trans hr.err
  have hsz := hb.size
  have hlt := hr.lt
  refine ⟨by simp; omega, ?_, ?_, ?_, ?_, ?_, ?_⟩
  · exact (World.cell?_setCell_other w1 ⟨b, 7, none⟩ ⟨b, 6, none⟩ u (by simp)).trans ((hc 6).trans hr.notObj)
  · exact World.cell?_setCell_same w1 _ u h7
  · rw [World.frozen?_setCell, hf]; exact hr.free
  · exact (World.cell?_setCell_other w1 ⟨b, 7, none⟩ ⟨b, 8, none⟩ u (by simp)).trans ((hc 8).trans hr.msgs)
  · exact (World.cell?_setCell_other w1 ⟨b, 7, none⟩ ⟨b, 9, none⟩ u (by simp)).trans ((hc 9).trans hr.bad)
  · exact (World.cell?_setCell_other w1 ⟨b, 7, none⟩ ⟨b, 10, none⟩ u (by simp)).trans ((hc 10).trans hr.inp)

set_option maxHeartbeats 400000 in
theorem wrong_new (F : Interp) (f kd : ByteArray) (b : Nat) (w : World) (hF : F.answers w.tape) (hk : kd.toList.isEmpty = false) (hr : Rdr w b .nilIface) :
    Calls Tryf.prog 13 #[.pointer (some ⟨b, 0, none⟩), .string f, .string kd] w fun e w' => e = .returned (.tuple #[]) ∧ ∃ x, Rdr w' b (.iface 52 x) ∧ Below b w w' := by
  have hc := hr.err
  go_enter Tryf.func13, Tryf.ntmps13
  go_wp2_with fail
  refine (typeError_any F _ _ _ hF).mono ?_
  rintro e w1 ⟨x, rfl, hb⟩
  have hf : w1.frozen? ⟨b, 7, none⟩ = false := (hb.frozen (p := ⟨b, 7, none⟩) hr.lt).trans hr.free
  have h7 : w1.cell? ⟨b, 7, none⟩ = some .nilIface := (hb.cell (p := ⟨b, 7, none⟩) hr.lt).trans hr.err
  go_wp2
  go_end0
  exact ⟨rfl, x, hr.step hb, (hb.mono (Nat.le_of_lt hr.lt)).setCell (Nat.le_refl _) _⟩

/-- What the typeErr field holds: nil where no kind was given, an error else. -/
def Held (set : Bool) (v : Value) : Prop := if set then ∃ x, v = .iface 52 x else v = .nilIface

/-- ZZwrongType, whatever the reader holds. -/
theorem zzwrong_any (F : Interp) (f kd : ByteArray) (b : Nat) (set : Bool) (v : Value) (w : World) (hF : F.answers w.tape) (hr : Rdr w b v) (hv : Held set v) :
    Calls Tryf.prog 7 #[.pointer (some ⟨b, 0, none⟩), .string f, .string kd] w fun e w' => e = .returned (.tuple #[]) ∧ ∃ v', Rdr w' b v' ∧ Held (set || decide (0 < kd.size)) v' ∧ Below b w w' := by
  by_cases hk : kd.toList.isEmpty = true
  · have hz : kd = ByteArray.empty := by
      have h := List.isEmpty_iff.mp hk
      rw [ByteArray.toList_eq] at h
      cases kd with | mk d => exact congrArg ByteArray.mk (by cases d with | mk l => exact congrArg Array.mk h)
    subst hz
    go_enter Tryf.func7, Tryf.ntmps7
    go_wp2_with (go_at_call 13; refine (wrong_none _ _ _).mono ?_; rintro e w' ⟨rfl, rfl⟩)
    go_end0
    exact ⟨rfl, v, hr, by simpa using hv, Below.refl _ _⟩
  · have hk' : kd.toList.isEmpty = false := by simpa using hk
    have hd : decide (0 < kd.size) = true := by
      rw [ByteArray.toList_eq] at hk'
      have h : kd.data.toList ≠ [] := by intro e; rw [e] at hk'; cases hk'
      have h' := List.length_pos_iff.mpr h
      rw [decide_eq_true_eq]
      simpa using h'
    rw [hd, Bool.or_true]
    cases set with
    | true =>
      obtain ⟨x, rfl⟩ : ∃ x, v = .iface 52 x := hv
      have hc := hr.err
      clear hd hk
      go_enter Tryf.func7, Tryf.ntmps7
      go_wp2_with (go_at_call 13; refine (wrong_held _ _ _ x _ hk' hc).mono ?_; rintro e w' ⟨rfl, rfl⟩)
      go_end0
      exact ⟨rfl, _, hr, ⟨x, rfl⟩, Below.refl _ _⟩
    | false =>
      obtain rfl : v = .nilIface := hv
      clear hd hk
      go_enter Tryf.func7, Tryf.ntmps7
      go_wp2_with (go_at_call 13; refine (wrong_new F _ _ _ _ hF hk' hr).mono ?_; rintro e w' ⟨rfl, x, hr', hb⟩)
      go_end0
      exact ⟨rfl, _, hr', ⟨x, rfl⟩, hb⟩
end Go.Proofs.Qxb6616264aFmt
