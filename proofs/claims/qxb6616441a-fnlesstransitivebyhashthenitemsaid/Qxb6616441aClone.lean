import Derived.Test.Qxb6616441aLessWalks
import Derived.Deep.OwnRows
import Derived.Laws.CopyOwn
namespace Go.Proofs.Qxb6616441a
open Go.RowKit

theorem add_at (b o i : Nat) : (⟨b, o, none⟩ : Addr).add i = ⟨b, o + i, none⟩ := by unfold Addr.add; split <;> simp_all

/-- 'zzc := make([]T, len(xs)); copy(zzc, xs)': the new block holds the numbers of xs; nothing old has turned. -/
theorem clone_ok (k : IntKind) (T E ty : TypeId) (ht : Try.prog.underlying T = some (.slice E)) (hs : (Try.prog.info? E).map (·.size) = some 1) (w : World) (x : Addr) (len cap : Nat) (h : Nat → Int)
    (hcell : ∀ i, i < len → w.cell? (x.add i) = some (.int k (h i))) :
    ∃ w2, (Builtin.copy_ #[T, T] ty #[.slice (some ⟨w.heap.size, 0, none⟩) len len, .slice (some x) len cap]).run Try.prog (w.alloc (.cells (madeCells #[.int k 0] len) E)) = .ok (.int .i64 len) w2 ∧
      (∀ i, i < len → w2.cell? ⟨w.heap.size, i, none⟩ = some (.int k (h i))) ∧ Below w.heap.size w w2 ∧ w2.heap.size = w.heap.size + 1 := by
  have hg : (w.alloc (.cells (madeCells #[.int k 0] len) E)).heap[w.heap.size]? = some (.cells (madeCells #[.int k 0] len) E (0, 0)) := by
    show (w.heap.push _)[w.heap.size]? = _
    simp
  have hb : Below w.heap.size w (w.alloc (.cells (madeCells #[.int k 0] len) E)) := (Below.refl _ _).alloc (Nat.le_refl _) _
  have hlen : ((List.range len).map fun i => Value.int k (h i)).length = len := by simp
  have hr := run_copy_row (P := Try.prog) (w.alloc (.cells (madeCells #[.int k 0] len) E)) T T ty E w.heap.size 0 len len x len cap (madeCells #[.int k 0] len) E ((List.range len).map fun i => Value.int k (h i)) ht hs hg
    (by rw [hlen]; exact (Nat.min_self len).symm)
    (by
      intro j v hj
      have hjl : j < len := by
        have := (List.getElem?_eq_some_iff.1 hj).1
        rwa [hlen] at this
      simp [hjl] at hj
      subst hj
      have hx := hcell j hjl
      have hlt := World.block_lt_of_cell? (h := hx)
      rw [hb.cell hlt]
      exact hx)
    (by rw [hlen, size_madeCells]; omega)
    (by
      intro v hv
      simp at hv
      obtain ⟨i, _, rfl⟩ := hv
      rfl)
  rw [hlen] at hr
  refine ⟨_, hr, ?_, ?_, ?_⟩
  · intro i hi
    rw [cell_setRow_same _ _ _ _ _ _ _ hg]
    simp only [List.take_zero, List.nil_append, List.getElem?_toArray]
    rw [List.getElem?_append_left (by simpa using hi)]
    simp [hi]
  · exact below_setRow hb (Nat.le_refl _) _
  · simp

/-- The call ends with a bool. -/
def RetBool (e : Ending) : Prop := ∃ r, e = .returned (.bool r)

set_option maxHeartbeats 400000 in
theorem bytes7_any (a0 a1 : Option Addr) (len0 cap0 len1 cap1 : Nat) (i j : Int) (w : World) (h0 : len0 ≤ 9223372036854775807) (h1 : len1 ≤ 9223372036854775807) :
    Calls Try.prog 7 #[.slice a0 len0 cap0, .slice a1 len1 cap1, .int .i64 i, .int .i64 j] w fun e w' => RetBool e ∧ w' = w := by
  go_enter Try.func7, Try.ntmps7
  go_wp2
  all_goals (go_ret; exact ⟨⟨_, rfl⟩, rfl⟩)

set_option maxHeartbeats 400000 in
theorem bytes11_any (a0 a1 : Option Addr) (len0 cap0 len1 cap1 : Nat) (i j k : Int) (w : World) (h0 : len0 ≤ 9223372036854775807) (h1 : len1 ≤ 9223372036854775807) :
    Calls Try.prog 11 #[.slice a0 len0 cap0, .slice a1 len1 cap1, .int .i64 i, .int .i64 j, .int .i64 k] w fun e w' => RetBool e ∧ w' = w := by
  go_enter Try.func11, Try.ntmps11
  go_wp2
  all_goals (go_ret; exact ⟨⟨_, rfl⟩, rfl⟩)

set_option maxHeartbeats 400000 in
theorem dup_any (H O : Value) (w : World) (hH : ∃ a n c, H = .slice a n c) (hO : ∃ a n c, O = .slice a n c) :
    Calls Try.prog 8 #[H, O] w fun e w' => e = .returned (.pointer (some ⟨w.heap.size, 0, none⟩)) ∧ w' = w.alloc (.cells #[.slice none 0 0, H, O, .slice none 0 0] 38) := by
  obtain ⟨a, n, c, rfl⟩ := hH
  obtain ⟨a', n', c', rfl⟩ := hO
  go_enter Try.func8, Try.ntmps8
  go_wp2
  go_ret
  exact ⟨rfl, rfl⟩

theorem Try.info34 : (Try.prog.info? 34).map (fun i => (i.zero, i.size, i.bytes)) = some (some (.int .u64 0), 1, 8) := by kernel_rfl
theorem Try.info3 : (Try.prog.info? 3).map (fun i => (i.zero, i.size, i.bytes)) = some (some (.int .i64 0), 1, 8) := by kernel_rfl
theorem Try.size34 : (Try.prog.info? 34).map (·.size) = some 1 := by kernel_rfl
theorem Try.size3 : (Try.prog.info? 3).map (·.size) = some 1 := by kernel_rfl
end Go.Proofs.Qxb6616441a
