import Derived.Test.Qxb6616264aFmtLaw
import Derived.ProofKit
import Derived.OpenShut
import Derived.Carry
import Derived.SizedLaws
import Derived.Deep.SlicePairs
import Derived.SevenToldRow
namespace Go.Proofs.Qxb6616264aFmt
open Go.ChangeShapes Go.WideShapes Go.ChangeAt Go.RowKit
open Go.Extern.Stop Go.Stop Go.Extern

theorem Tryf.own : ownKnob Tryf.prog.godebug = none := by kernel_rfl
theorem Tryf.laidOut : laidOutB Tryf.pinned.checked.prog = true := by kernel_rfl
theorem Tryf.stops : Tryf.pinned.checked.prog.stops = ["fmt.errorf"] := by kernel_rfl
theorem Tryf.stopKnobs : Tryf.pinned.checked.prog.stopKnobs = [] := by kernel_rfl
theorem Tryf.quiet (os : Os) : Stop.quiet Tryf.pinned.checked.prog os := by
  intro k hk
  rw [Tryf.stopKnobs] at hk
  cases hk

/-- From a slice of pairs of strings, as it is read, to the script in memory. -/
theorem script_of {H : Type} {enc : TypeId × Value → H} {W : World} {a : Option Addr} {len cap : Nat} {d : DataW H} {ps : List MemPlace}
    (h : DataW.Trod enc Tryf.prog W 0 (fun _ => true) true 22 (.slice a len cap) d ps) (hp : 0 < len) :
    ∃ b off fs ks, a = some ⟨b, off, none⟩ ∧ b < W.heap.size ∧ len ≤ 9223372036854775807 ∧ Script W b off len fs ks := by
  obtain ⟨fuel, hf⟩ := h
  rcases Go.Deep.open_slice_pairs Tryf.underlying22 Tryf.underlying27 (by kernel_rfl) rfl rfl (by kernel_rfl) (by kernel_rfl) hf with ⟨hcs, _⟩ | ⟨x, l, c, m, n, V0, V1, D0, D1, P0, P1, hcs, _, hl, hm, hmm, _, hx⟩
  · simp [Value.cells] at hcs
    omega
  · simp [Value.cells] at hcs
    obtain ⟨rfl, rfl, rfl⟩ := hcs
    have hlm : len ≤ m := by rw [hmm]; simpa using hl
    obtain ⟨b, off, spot⟩ := x
    have hspot : spot = none := by simpa [Addr.add] using World.cell?_spot (hx 0 (by omega)).1
    subst hspot
    have hb : b < W.heap.size := by
      have := World.block_lt_of_cell? (h := (hx 0 (by omega)).1)
      simpa [add_plain] using this
    have each : ∀ i, i < m → ∃ s : ByteArray × ByteArray, V0 i = .string s.1 ∧ V1 i = .string s.2 ∧ s.1.size ≤ maxLen ∧ s.2.size ≤ maxLen := by
      intro i hi
      obtain ⟨_, _, g0, g1⟩ := hx i hi
      obtain ⟨s0, e0, _, z0⟩ := DataW.trod_string Tryf.underlying9 g0
      obtain ⟨s1, e1, _, z1⟩ := DataW.trod_string Tryf.underlying9 g1
      simp at e0 e1
      exact ⟨(s0, s1), e0, e1, z0, z1⟩
    obtain ⟨f, hfs⟩ := Go.Deep.choose_lt each
    refine ⟨b, off, fun i => (f i).1, fun i => (f i).2, rfl, hb, by unfold maxLen at hm; omega, ⟨?_, ?_, ?_, ?_⟩⟩
    · intro k hk
      have h := (hx k (by omega)).1
      rw [add_plain, (hfs k (by omega)).1] at h
      exact h
    · intro k hk
      have h := (hx k (by omega)).2.1
      rw [add_plain, (hfs k (by omega)).2.1] at h
      exact h
    · intro k hk
      have h := (hfs k (by omega)).2.2.1
      unfold maxLen at h
      omega
    · intro k hk
      have h := (hfs k (by omega)).2.2.2
      unfold maxLen at h
      omega

set_option maxRecDepth 100000 in
theorem t_lifted (os : Os) (started : os.Started) (H : Type) (enc : TypeId × Value → H) :
    ReturnsInTold none {} Tryf.checked os 3 .any Input.okWide ((OpenSpec.ofChange Rows.fnWrongTypeSetsAFaultExactlyWhenAKindIsGivenSpec).preRow enc Tryf.prog Tryf.f3 Rows.fnWrongTypeSetsAFaultExactlyWhenAKindIsGivenRow.domain false []) (fun F => ((OpenSpec.ofChange Rows.fnWrongTypeSetsAFaultExactlyWhenAKindIsGivenSpec).at F).post enc Tryf.prog Tryf.f3 false true false false) (aloneAtReturn Tryf.prog) nothingAlways := by
  refine returnsInTold_of_row (C := Tryf.checked) (s := OpenSpec.ofChange Rows.fnWrongTypeSetsAFaultExactlyWhenAKindIsGivenSpec) (by kernel_rfl) Tryf.own started (by kernel_rfl) Tryf.func3
    (OpenSpec.witness_stopped (enc := enc) (C := Tryf.checked) false ⟨#[], #[.slice none 0 0], []⟩ 8 (by kernel_rfl) (by kernel_rfl) (by kernel_rfl) (by kernel_rfl)) ?_
  intro F W base args ds gs before _ hF hval0 hW _ _ _ _ _
  have hval : ∀ (j : Nat) t v, Tryf.f3.params[j]? = some t → args[j]? = some v → Value.okWide Tryf.prog W .any base t v := hval0
  have hW' := hW
  obtain ⟨p, q, hA0, hV, rfl, hfz, hnd⟩ := hW
  have hA : DataW.TrodAll enc Tryf.prog W 0 (fun _ => true) true Tryf.f3.params.toList args.toList ds p := hA0
  rw [Tryf.params3] at hA hval
  obtain ⟨v0, d0, rfl, rfl, h0⟩ := trodAll_one hA
  obtain ⟨rfl, rfl⟩ := trodVars_none hV
  obtain ⟨a0, len0, cap0, rfl⟩ := okWide_slice Tryf.underlying22 (hval 0 22 v0 rfl rfl)
  have k0 := h0
  have lt0 : ∀ x ∈ p, x.block < W.heap.size := by obtain ⟨m, hm⟩ := k0; exact DataW.trod_lt m _ _ _ hm
  clear hA0 hval0
  have fin : ∀ (e : Ending) W', (e = .returned (.bool true) ∧ Below W.heap.size W W') → ∃ v, e = .returned v ∧ ((OpenSpec.ofChange Rows.fnWrongTypeSetsAFaultExactlyWhenAKindIsGivenSpec).at F.told).post enc Tryf.checked.prog Tryf.f3 false true false false W #[.slice a0 len0 cap0] v W' := by
    rintro e W' ⟨rfl, bel⟩
    exact ⟨_, rfl, _, _, _, [], _, [], hW', trodAll_mk1 (shut_bool Tryf.underlying4 _), trodAll_mk1 (Below.trod Tryf.laidOut (by kernel_rfl) (of_decide_eq_true (by kernel_rfl)) k0 bel lt0), rfl, bel.frame _, fun h => by cases h⟩
  rcases Nat.eq_zero_or_pos len0 with rfl | hp
  · exact (law_zero a0 cap0 W).mono fin
  · obtain ⟨b, off, fs, ks, rfl, hb, hl, hs⟩ := script_of k0 hp
    exact (law_pos F.told b off len0 cap0 fs ks W hF hb hl hp hs).mono fin

/-- THE CARD. -/
theorem fnWrongType_told : Rows.FnWrongTypeSetsAFaultExactlyWhenAKindIsGivenToldSaid :=
  Claim7.holds_of_told_any 3 Tryf.f3 "fmt.errorf" [] [] _ _ _ (by kernel_rfl) rfl rfl rfl Tryf.laidOut (by kernel_rfl) rfl ⟨rfl, rfl, rfl, rfl, rfl, rfl, rfl⟩ rfl rfl (by kernel_rfl) (by kernel_rfl) Tryf.func3 (by kernel_rfl)
    (of_decide_eq_true (by kernel_rfl)) (of_decide_eq_true (by kernel_rfl)) Tryf.stops.symm rfl Tryf.stopKnobs.symm (by kernel_rfl)
    (by kernel_rfl) (by kernel_rfl) (by kernel_rfl) (by kernel_rfl) (by kernel_rfl) (by kernel_rfl) (by kernel_rfl) (by kernel_rfl) (by kernel_rfl) rfl (by kernel_rfl) rfl rfl
    rfl rfl
    rfl (by kernel_rfl) (by kernel_rfl) (by kernel_rfl) (by decide) (by kernel_rfl)
    (OpenClaim.moreEntering_of (by kernel_rfl) (by kernel_rfl) (by kernel_rfl) (by kernel_rfl) (by kernel_rfl) (by kernel_rfl) (by kernel_rfl) (by kernel_rfl) (by kernel_rfl) (by kernel_rfl))
    ⟨_, WideRow.started_initial, Tryf.quiet _⟩
    (fun os started _ H enc _ => t_lifted os started H enc)
end Go.Proofs.Qxb6616264aFmt
