import Derived.Test.Qxb6616441aMergeCall
import Derived.OpenShut
namespace Go.Proofs.Qxb6616441a
open Go.RowKit

/-- WHAT THE WALK IS TOLD OF A SLICE OF INTEGERS THAT CAME IN: it is nil; or it leads to a row of 'cap' cells, the numbers 'zs' (the first 'len' are its elements, the rest its spare room), each fitting its kind. -/
def WRow (k : IntKind) (w : World) (a : Option Addr) (len cap : Nat) (zs : List Int) : Prop :=
  (a = none ∧ len = 0 ∧ cap = 0 ∧ zs = []) ∨
  ∃ x, a = some x ∧ len ≤ cap ∧ cap ≤ maxLen ∧ zs.length = cap ∧ (∀ i, i < zs.length → w.cell? (x.add i) = some (.int k (zs.getD i 0))) ∧ ∀ n ∈ zs, (Lit.int k n).wf = true

theorem WRow.len_le {k : IntKind} {w : World} {a : Option Addr} {len cap : Nat} {zs : List Int} (h : WRow k w a len cap zs) : len ≤ 9223372036854775807 := by
  rcases h with ⟨_, rfl, _⟩ | ⟨x, _, h1, h2, _⟩
  · omega
  · unfold maxLen at h2; omega

/-- The words of a slice that is not empty, as a function of the index. -/
theorem WRow.words {w : World} {a : Option Addr} {len cap : Nat} {zs : List Int} (h : WRow .u64 w a len cap zs) (hp : 0 < len) :
    ∃ (b off : Nat) (f : Nat → Nat), a = some ⟨b, off, none⟩ ∧ b < w.heap.size ∧ (∀ i, f i < 18446744073709551616) ∧ ∀ i, i < len → w.cell? ⟨b, off + i, none⟩ = some (.int .u64 (f i : Int)) := by
  rcases h with ⟨_, rfl, _⟩ | ⟨x, rfl, h1, _, h3, h4, h5⟩
  · omega
  · obtain ⟨b, off, spot⟩ := x
    have hspot : spot = none := by simpa [Addr.add] using World.cell?_spot (h4 0 (by omega))
    subst hspot
    have each : ∀ i, 0 ≤ zs.getD i 0 ∧ zs.getD i 0 < 18446744073709551616 := by
      intro i
      by_cases hi : i < zs.length
      · have hm : zs.getD i 0 ∈ zs := by
          rw [List.getD_eq_getElem?_getD, List.getElem?_eq_getElem hi]
          exact List.getElem_mem hi
        have := bounds_u64 (h5 _ hm)
        omega
      · rw [List.getD_eq_getElem?_getD, List.getElem?_eq_none (by omega)]
        decide
    refine ⟨b, off, fun i => (zs.getD i 0).toNat, rfl, ?_, fun i => ?_, fun i hi => ?_⟩
    · have := World.block_lt_of_cell? (h := h4 0 (by omega))
      simpa [Go.WideShapes.add_plain] using this
    · have := each i
      show (zs.getD i 0).toNat < _
      omega
    · have hc := h4 i (by omega)
      rw [Go.WideShapes.add_plain] at hc
      rw [hc]
      have := each i
      show some (Value.int .u64 (zs.getD i 0)) = some (.int .u64 (((zs.getD i 0).toNat : Nat) : Int))
      rw [Int.toNat_of_nonneg this.1]
end Go.Proofs.Qxb6616441a
