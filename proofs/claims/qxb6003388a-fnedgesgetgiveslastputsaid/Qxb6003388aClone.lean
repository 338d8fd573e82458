import Derived.Test.Qxb6003388aPut
import Derived.Laws.CopyOwn
namespace Go.Proofs.Qxb6003388a
open Go.RowKit Go.Maps

theorem info3 : (Try.prog.info? 3).map (fun i => (i.zero, i.size, i.bytes)) = some (some (.int .i64 0), 1, 8) := by kernel_rfl
theorem info5 : (Try.prog.info? 5).map (fun i => (i.zero, i.size, i.bytes)) = some (some (.int .u8 0), 1, 1) := by kernel_rfl
theorem size3 : (Try.prog.info? 3).map (·.size) = some 1 := by kernel_rfl
theorem size5 : (Try.prog.info? 5).map (·.size) = some 1 := by kernel_rfl

/-- what the clone of a slice is: where it has an element, a row of its own that holds them -/
def Cloned (w w' : World) (k : IntKind) (t len : Nat) (z : Nat → Int) (p : Option Addr) : Prop :=
  0 < len → ∃ g, p = some ⟨g, 0, none⟩ ∧ w.heap.size ≤ g ∧ w'.rowIs g t len (fun i => .int k (z i))

def ClPost (w : World) (k : IntKind) (t len : Nat) (z : Nat → Int) (e : Ending) (w' : World) : Prop :=
  ∃ p c, e = .returned (.slice p len c) ∧ Cloned w w' k t len z p ∧ Below w.heap.size w w'

/-- 'copy(c, s)' into the row that 'make' has just laid, as long as s -/
theorem copy_made (w : World) (S t : TypeId) (k : IntKind) (x : Addr) (len cap : Nat) (z : Nat → Int) (hu : Try.prog.underlying S = some (.slice t)) (hs : (Try.prog.info? t).map (·.size) = some 1)
    (hc : ∀ i, i < len → w.cell? (x.add i) = some (.int k (z i))) (ty : TypeId) :
    ∃ w2, (Builtin.copy_ #[S, S] ty #[.slice (some ⟨w.heap.size, 0, none⟩) len len, .slice (some x) len cap]).run Try.prog (w.alloc (.cells (madeCells #[.int k 0] len) t)) = .ok (.int .i64 (len : Int)) w2 ∧
      w2.rowIs w.heap.size t len (fun i => .int k (z i)) ∧ Below w.heap.size w w2 := by
  by_cases h0 : len = 0
  · subst h0
    refine ⟨_, run_copy_none (P := Try.prog) _ S S ty t _ _ 0 0 0 cap hu hs (by simp), ?_, (Below.refl _ _).alloc (Nat.le_refl _) _⟩
    exact ⟨_, Go.Deep.blk_alloc_new _ _, by simp [size_madeCells], fun i hi => by omega⟩
  have hx : x.block < w.heap.size := by
    have h := hc 0 (by omega)
    unfold World.cell? at h
    cases hb : w.heap[(x.add 0).block]? with
    | none => simp [hb] at h
    | some o => exact (Array.getElem?_eq_some_iff.1 hb).1
  have hcell : ∀ i, i < len → (w.alloc (.cells (madeCells #[.int k 0] len) t)).cell? (x.add i) = some (.int k (z i)) := by
    intro i hi
    rw [← hc i hi]
    exact World.cell?_of_block (w := w) (Below.heap_alloc _ _ _ (by unfold Addr.add; split <;> exact hx))
  have hl : ((List.range len).map (fun i => Value.int k (z i))).length = len := by simp
  have hrun := run_copy_row (P := Try.prog) (w.alloc (.cells (madeCells #[.int k 0] len) t)) S S ty t w.heap.size 0 len len x len cap (madeCells #[.int k 0] len) t ((List.range len).map (fun i => .int k (z i))) hu hs
    (Go.Deep.blk_alloc_new _ _) (by rw [hl]; exact (Nat.min_self _).symm) ?_ (by rw [hl, size_madeCells]; omega) (by simp [Value.oneCell'])
  · rw [hl] at hrun
    refine ⟨_, hrun, ⟨_, setRow_heap _ _ _ _ t _ (Go.Deep.blk_alloc_new _ _), by simp [size_madeCells], fun i hi => ?_⟩, below_setRow ((Below.refl _ _).alloc (Nat.le_refl _) _) (Nat.le_refl _) _⟩
    simp [size_madeCells, hi]
  · intro j v hv
    by_cases hj : j < len
    · simp [hj] at hv
      rw [← hv]
      exact hcell j hj
    · simp [hj] at hv

set_option maxHeartbeats 400000 in
theorem clone6_nil (w : World) (cap : Nat) (z : Nat → Int) : Calls Try.prog 6 #[.slice none 0 cap] w (ClPost w .i64 3 0 z) := by
  have hn2 := fun w => Lib.run_eql_slice_nil (P := Try.prog) w 22 3 none 0 cap 0 0 Try.underlying22
  go_enter Try.func6, Try.ntmps6
  go_wp2
  go_ret
  exact ⟨_, _, rfl, fun h => by omega, Below.refl _ _⟩

set_option maxHeartbeats 400000 in
theorem clone7_nil (w : World) (cap : Nat) (z : Nat → Int) : Calls Try.prog 7 #[.slice none 0 cap] w (ClPost w .u8 5 0 z) := by
  have hn2 := fun w => Lib.run_eql_slice_nil (P := Try.prog) w 23 5 none 0 cap 0 0 Try.underlying23
  go_enter Try.func7, Try.ntmps7
  go_wp2
  go_ret
  exact ⟨_, _, rfl, fun h => by omega, Below.refl _ _⟩

set_option maxHeartbeats 400000 in
theorem clone6 (w : World) (x : Addr) (len cap : Nat) (z : Nat → Int) (hl : len ≤ 1048576) (hc : ∀ i, i < len → w.cell? (x.add i) = some (.int .i64 (z i))) :
    Calls Try.prog 6 #[.slice (some x) len cap] w (ClPost w .i64 3 len z) := by
  have hn2 := fun w => Lib.run_eql_slice_nil (P := Try.prog) w 22 3 (some x) len cap 0 0 Try.underlying22
  have hmk := fun w => run_make_row' (P := Try.prog) 22 3 (.int .i64 0) 8 Try.underlying22 info3 rfl .i64 .i64 len (by omega) (by omega) w
  obtain ⟨w2, hcp, hrow, hbel⟩ := copy_made w 22 3 .i64 x len cap z Try.underlying22 size3 hc 3
  clear hc
  go_enter Try.func6, Try.ntmps6
  go_wp2
  go_ret
  exact ⟨_, _, rfl, fun _ => ⟨_, rfl, Nat.le_refl _, hrow⟩, hbel⟩

set_option maxHeartbeats 400000 in
theorem clone7 (w : World) (x : Addr) (len cap : Nat) (z : Nat → Int) (hl : len ≤ 1048576) (hc : ∀ i, i < len → w.cell? (x.add i) = some (.int .u8 (z i))) :
    Calls Try.prog 7 #[.slice (some x) len cap] w (ClPost w .u8 5 len z) := by
  have hn2 := fun w => Lib.run_eql_slice_nil (P := Try.prog) w 23 5 (some x) len cap 0 0 Try.underlying23
  have hmk := fun w => run_make_row' (P := Try.prog) 23 5 (.int .u8 0) 1 Try.underlying23 info5 rfl .i64 .i64 len (by omega) (by omega) w
  obtain ⟨w2, hcp, hrow, hbel⟩ := copy_made w 23 5 .u8 x len cap z Try.underlying23 size5 hc 3
  clear hc
  go_enter Try.func7, Try.ntmps7
  go_wp2
  go_ret
  exact ⟨_, _, rfl, fun _ => ⟨_, rfl, Nat.le_refl _, hrow⟩, hbel⟩
end Go.Proofs.Qxb6003388a
