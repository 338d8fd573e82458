/-
  suspicion.New: A NODE AS IT BEGINS.
-/
import Derived.Test.Qxb6002353aPeer
namespace Go.Proofs.Qxb6002353a
open Go.RowKit Go.Maps

def selfCells (u : UInt8) : Array Value := #[.string (idb u), .bool true, .int .u64 0, .int .u64 0, .bool false, .bool false, .bool false, .bool false, .int .u64 0, .int .u64 0, .int .u64 0, .bool false, .int .u64 0, .bool false, .bool false]
def nodeCells (u : UInt8) (lf al : Int) (cb pm ab qm nm : Nat) : Array Value := #[.string (idb u), .int .i64 lf, .int .i64 al, .func (.func 21) #[] #[.pointer (some ⟨cb, 0, none⟩)], .map (some pm), .slice (some ⟨ab, 0, none⟩) 1 1, .int .i64 1, .int .i64 0, .map (some qm), .slice none 0 0, .int .u64 0, .map (some nm), .int .u64 0, .int .i64 0, .bool false, .int .u64 0, .int .u64 0, .int .u64 0, .int .u64 0, .int .u64 0, .bool false, .bool false, .bool false, .int .u64 0]

theorem selfPeer_is {w : World} {pb : Nat} {u : UInt8} (h : w.rowIs pb 73 15 (fun i => (selfCells u).getD i undef)) : PeerIs w pb u (fun i => (selfCells u).getD i undef) := by
  refine ⟨h, rfl, fun i hi => ?_⟩
  match i, hi with
  | 0, _ => exact Ty.mk0 _
  | 1, _ | 4, _ | 5, _ | 6, _ | 7, _ | 11, _ | 13, _ | 14, _ => exact Ty.mkb _
  | 2, _ | 3, _ | 8, _ | 9, _ | 10, _ | 12, _ => exact Ty.mku _ (Int.le_refl _)

theorem node_ty (u : UInt8) (lf al : Int) (cb pm ab qm nm : Nat) : ∀ i, i < 24 → Ty (kN i) ((nodeCells u lf al cb pm ab qm nm).getD i undef) := fun i hi => by
  match i, hi with
  | 0, _ | 3, _ | 4, _ | 5, _ | 8, _ | 9, _ | 11, _ => exact Ty.mk0 _
  | 1, _ | 2, _ | 6, _ | 7, _ | 13, _ => exact Ty.mki _
  | 14, _ | 20, _ | 21, _ | 22, _ => exact Ty.mkb _
  | 10, _ | 12, _ | 15, _ | 16, _ | 17, _ | 18, _ | 19, _ | 23, _ => exact Ty.mku _ (Int.le_refl _)
  | n + 24, h => exact absurd h (by omega)

theorem has_none (l : List UInt8) : Maps.has (.map [] : DataW Value) (.string l) = false := rfl

def nilRec : Nat → Value := fun i => if i = 0 then .slice none 0 0 else if i = 1 then .bool false else .slice none 0 0

/-- the blocks that a new node lies in -/
def freshS (w w' : World) (rb cb : Nat) : Nat → Prop := fun k => k = rb ∨ k = cb ∨ (w.heap.size ≤ k ∧ k < w'.heap.size)

theorem new_done {w w4 : World} {rb cb : Nat} {u : UInt8} (hu : IsNm u) {Dd : UInt8 → Prop} (hD : ∀ u, Dd u → IsNm u) (lf al : Int) (o1 : Obj) (hcb : w.rowIs cb 36 1 (fun _ => .pointer (some ⟨rb, 0, none⟩))) (hrb : w.rowIs rb 38 3 nilRec)
    (hpm : ∀ L' : List Nat, (∀ b, b ∈ L' ↔ b ∈ ([] : List Nat) ∨ b = w.heap.size + 1) → PeersMap w4 (w.heap.size + 2) L' (fun b => if b = w.heap.size + 1 then u else u)) (hg4 : (((w.alloc o1).alloc (.cells (selfCells u) 73)).alloc (.map #[] 0)).grownBy w4 (some (w.heap.size + 2)))
    {w8 : World} (e8 : w8 = (((w4.alloc (.cells #[.pointer (some ⟨w.heap.size + 1, 0, none⟩)] 74)).alloc (.map #[] 0)).alloc (.map #[] 0)).alloc (.cells (nodeCells u lf al cb (w.heap.size + 2) w4.heap.size (w4.heap.size + 1) (w4.heap.size + 2)) 64)) :
    NodeOK (freshS w w8 rb cb) w8 ⟨w4.heap.size + 3, w.heap.size + 2, w4.heap.size + 1, w4.heap.size + 2, rb, cb, w.heap.size + 1, u⟩ Dd 0 0 w4.heap.size 1 [w.heap.size + 1] (Phi ⟨w4.heap.size + 3, w.heap.size + 2, w4.heap.size + 1, w4.heap.size + 2, rb, cb, w.heap.size + 1, u⟩ 0 No No) ∧ Below w.heap.size w w8 := by
  have z4 : w.heap.size + 3 ≤ w4.heap.size := by have := hg4.size; simpa using this
  have z8 : w8.heap.size = w4.heap.size + 4 := by rw [e8]; simp
  have zc := World.rowIs.lt hcb
  have zr := World.rowIs.lt hrb
  have k8 : ∀ k, k < w4.heap.size → w8.heap[k]? = w4.heap[k]? := fun k hk => by
    rw [e8]
    exact (Below.heap_alloc _ _ _ (by simp; omega)).trans ((Below.heap_alloc _ _ _ (by simp; omega)).trans ((Below.heap_alloc _ _ _ (by simp; omega)).trans (Below.heap_alloc _ _ _ hk)))
  have k4 : ∀ k, k < w.heap.size + 2 → w4.heap[k]? = ((w.alloc o1).alloc (.cells (selfCells u) 73)).heap[k]? := fun k hk =>
    (hg4.block k (by simp; omega) (by simp; omega)).trans (Below.heap_alloc _ _ _ (by simp; omega))
  have kb : ∀ k, k < w.heap.size → w8.heap[k]? = w.heap[k]? := fun k hk =>
    (k8 k (by omega)).trans ((k4 k (by omega)).trans ((Below.heap_alloc _ _ _ (by simp; omega)).trans (Below.heap_alloc _ _ _ hk)))
  have rS : w8.rowIs (w.heap.size + 1) 73 15 (fun i => (selfCells u).getD i undef) := by
    have h0 := World.rowIs_alloc (w.alloc o1) (selfCells u) 73 (fun i => (selfCells u).getD i undef) (fun j hj => by simp [Array.getD, hj])
    rw [show (w.alloc o1).heap.size = w.heap.size + 1 by simp] at h0
    exact World.rowIs.of_block h0 ((k8 _ (by omega)).trans (k4 _ (by omega)))
  have rA : w8.rowIs w4.heap.size 74 1 (fun _ => .pointer (some ⟨w.heap.size + 1, 0, none⟩)) := by
    have h0 := World.rowIs_alloc w4 #[.pointer (some ⟨w.heap.size + 1, 0, none⟩)] 74 (fun _ => .pointer (some ⟨w.heap.size + 1, 0, none⟩)) (fun j hj => by
      have : j = 0 := by simpa using hj
      subst this; rfl)
    rw [e8]
    exact World.rowIs.of_block h0 ((Below.heap_alloc _ _ _ (by simp; omega)).trans ((Below.heap_alloc _ _ _ (by simp; omega)).trans (Below.heap_alloc _ _ _ (by simp))))
  have rN : w8.rowIs (w4.heap.size + 3) 64 24 (fun i => (nodeCells u lf al cb (w.heap.size + 2) w4.heap.size (w4.heap.size + 1) (w4.heap.size + 2)).getD i undef) := by
    have h0 := World.rowIs_alloc (((w4.alloc (.cells #[.pointer (some ⟨w.heap.size + 1, 0, none⟩)] 74)).alloc (.map #[] 0)).alloc (.map #[] 0)) (nodeCells u lf al cb (w.heap.size + 2) w4.heap.size (w4.heap.size + 1) (w4.heap.size + 2)) 64 _ (fun j hj => show _ = some ((nodeCells u lf al cb (w.heap.size + 2) w4.heap.size (w4.heap.size + 1) (w4.heap.size + 2)).getD j undef) by simp [Array.getD, hj])
    rw [show (((w4.alloc (.cells #[.pointer (some ⟨w.heap.size + 1, 0, none⟩)] 74)).alloc (.map #[] 0)).alloc (.map #[] 0)).heap.size = w4.heap.size + 3 by simp] at h0
    rw [e8]
    exact h0
  have mQ : w8.ownsMap Try.prog 9 RV (w4.heap.size + 1) 5 (.map []) := by
    have h0 := World.ownsMap_made (w4.alloc (.cells #[.pointer (some ⟨w.heap.size + 1, 0, none⟩)] 74)) Try.prog 9 RV
    rw [show (w4.alloc (.cells #[.pointer (some ⟨w.heap.size + 1, 0, none⟩)] 74)).heap.size = w4.heap.size + 1 by simp] at h0
    rw [e8]
    exact ((h0.mono (Nat.zero_le 5)).alloc _).alloc _
  have mN : w8.ownsMap Try.prog 9 RV (w4.heap.size + 2) 5 (.map []) := by
    have h0 := World.ownsMap_made ((w4.alloc (.cells #[.pointer (some ⟨w.heap.size + 1, 0, none⟩)] 74)).alloc (.map #[] 0)) Try.prog 9 RV
    rw [show ((w4.alloc (.cells #[.pointer (some ⟨w.heap.size + 1, 0, none⟩)] 74)).alloc (.map #[] 0)).heap.size = w4.heap.size + 2 by simp] at h0
    rw [e8]
    exact (h0.mono (Nat.zero_le 5)).alloc _
  have inN : ∀ k, w.heap.size ≤ k → k < w8.heap.size → freshS w w8 rb cb k := fun k h1 h2 => .inr (.inr ⟨h1, h2⟩)
  refine ⟨⟨fun i => (nodeCells u lf al cb (w.heap.size + 2) w4.heap.size (w4.heap.size + 1) (w4.heap.size + 2)).getD i undef, fun _ => .pointer (some ⟨w.heap.size + 1, 0, none⟩), fun _ => u, fun _ i => (selfCells u).getD i undef, fun _ => False, ?_⟩, ?_⟩
  · exact {
      nrow := rN
      n0 := rfl
      n3 := rfl
      n4 := rfl
      n5 := rfl
      n7 := ⟨0, rfl, Int.le_refl _, Int.le_refl _⟩
      n8 := rfl
      n11 := rfl
      n12 := rfl
      nty := node_ty _ _ _ _ _ _ _ _
      car := Entries.nil _ _ _
      brow := rA
      bptr := fun i hi => by
        have : i = 0 := by simpa using hi
        subst this; rfl
      bcap := ⟨Nat.le_refl _, by unfold maxLen; omega⟩
      l5 := by simp
      lnd := by simp
      peer := fun b hb => by
        have : b = w.heap.size + 1 := by simpa using hb
        subst this
        exact ⟨selfPeer_is rS, hu, ⟨fun _ => rfl, fun e => e.elim, fun e => e.elim⟩⟩
      self := ⟨by simp, rfl⟩
      dnm := hD
      pmap := by
        have h0 := hpm [w.heap.size + 1] (fun b => by simp)
        obtain ⟨D, a, b, c⟩ := h0
        refine ⟨D, map_blk a (k8 (w.heap.size + 2) (by omega)), fun x hx z => ?_, fun l hl => ?_⟩
        · have := b x hx z
          simpa using this
        · obtain ⟨x, hx, e⟩ := c l hl
          exact ⟨x, hx, by simpa using e⟩
      qmap := ⟨.map [], mQ, (fun l hl => by rw [has_none] at hl; cases hl), fun _ e => e.elim⟩
      nmap := ⟨.map [], mN, (fun l hl => by rw [has_none] at hl; cases hl)⟩
      recd := ⟨.slice none 0 0, .slice none 0 0, false, [], [], World.rowIs.of_block hrb (kb _ zr), World.ownsRow_nil _ _ _ _, World.ownsRow_nil _ _ _ _, Nat.le_refl _, Nat.le_refl _, by simp, by simp [Value.ownBlock], by simp [Value.ownBlock], .inl rfl⟩
      cbox := World.rowIs.of_block hcb (kb _ zc)
      inS := ⟨inN (w4.heap.size + 3) (by omega) (by omega), inN w4.heap.size (by omega) (by omega), (fun b hb => by
        have : b = w.heap.size + 1 := by simpa using hb
        subst this
        exact inN _ (by omega) (by omega)), inN (w.heap.size + 2) (by omega) (by omega), inN (w4.heap.size + 1) (by omega) (by omega), inN (w4.heap.size + 2) (by omega) (by omega), .inl rfl, .inr (.inl rfl)⟩
      dif := ⟨by show w.heap.size + 2 ≠ w4.heap.size + 1; omega, by show w.heap.size + 2 ≠ w4.heap.size + 2; omega, by show w4.heap.size + 1 ≠ w4.heap.size + 2; omega⟩ }
  · have b4 : Below w.heap.size w w4 := by
      have h0 : Below w.heap.size w (((w.alloc o1).alloc (.cells (selfCells u) 73)).alloc (.map #[] 0)) := (((Below.refl _ _).alloc (Nat.le_refl _) _).alloc (by simp) _).alloc (by simp; omega) _
      exact ⟨hg4.os.trans h0.os, hg4.tape.trans h0.tape, hg4.output.trans h0.output, Nat.le_trans h0.size hg4.size, fun k hk => (hg4.block k (by simp; omega) (by simp; omega)).trans (h0.block k hk)⟩
    rw [e8]
    exact (((b4.alloc (by omega) _).alloc (by simp; omega) _).alloc (by simp; omega) _).alloc (by simp; omega) _

def NewPost (w : World) (rb cb : Nat) (u : UInt8) (Dd : UInt8 → Prop) (e : Ending) (w' : World) : Prop :=
  ∃ F ab, e = .returned (.pointer (some ⟨F.nb, 0, none⟩)) ∧ F.id = u ∧ F.rb = rb ∧ NodeOK (freshS w w' rb cb) w' F Dd 0 0 ab 1 [F.sb] (Phi F 0 No No) ∧ Below w.heap.size w w'

set_option maxHeartbeats 4000000 in
set_option maxRecDepth 100000 in
theorem new_any {w : World} {rb cb : Nat} {u : UInt8} (hu : IsNm u) {Dd : UInt8 → Prop} (hD : ∀ u, Dd u → IsNm u) (lf al : Int) (hcb : w.rowIs cb 36 1 (fun _ => .pointer (some ⟨rb, 0, none⟩))) (hrb : w.rowIs rb 38 3 nilRec) :
    Calls Try.prog 23 #[.string (idb u), .agg #[.int .i64 lf, .int .i64 al, .func (.func 21) #[] #[.pointer (some ⟨cb, 0, none⟩)]]] w (NewPost w rb cb u Dd) := by
  have hP : PeersMap (((w.alloc (.cells #[.int .i64 lf, .int .i64 al, .func (.func 21) #[] #[.pointer (some ⟨cb, 0, none⟩)]] 55)).alloc (.cells (selfCells u) 73)).alloc (.map #[] 0)) (w.heap.size + 2) [] (fun _ => u) := by
    have h0 := World.ownsMap_made ((w.alloc (.cells #[.int .i64 lf, .int .i64 al, .func (.func 21) #[] #[.pointer (some ⟨cb, 0, none⟩)]] 55)).alloc (.cells (selfCells u) 73)) Try.prog 9 RV
    rw [show ((w.alloc (.cells #[.int .i64 lf, .int .i64 al, .func (.func 21) #[] #[.pointer (some ⟨cb, 0, none⟩)]] 55)).alloc (.cells (selfCells u) 73)).heap.size = w.heap.size + 2 by simp] at h0
    exact ⟨_, h0.mono (Nat.zero_le 5), (fun b hb => by cases hb), (fun l hl => by rw [has_none] at hl; cases hl)⟩
  obtain ⟨w4, hup, hpm, hg4⟩ := hP.store (fun b hb => by cases hb) hu (fun b hb => by cases hb) (pb := w.heap.size + 1) (by simp)
  have HD := hide0 (fun w8 e8 => new_done (w8 := w8) hu hD lf al (.cells #[.int .i64 lf, .int .i64 al, .func (.func 21) #[] #[.pointer (some ⟨cb, 0, none⟩)]] 55) hcb hrb hpm hg4 e8)
  have hmm := @run_makeMap Try.prog
  have z4 := hg4.size
  clear hP hpm hg4 hcb hrb
  unfold selfCells at hup z4
  simp at z4
  go_enter Try.func23, Try.ntmps23
  go_wp2_with fail
  go_ret
  exact ⟨_, _, rfl, rfl, rfl, (HD.out _ rfl).1, (HD.out _ rfl).2⟩
end Go.Proofs.Qxb6002353a
