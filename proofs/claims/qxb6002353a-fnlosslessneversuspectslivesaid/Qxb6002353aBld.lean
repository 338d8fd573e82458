/-
  suspG1BuildNet: THE NETWORK AS IT BEGINS.
-/
import Derived.Test.Qxb6002353aNet
import Derived.Test.Qxb6002353aNew
import Derived.Deep.RegionWith
import Derived.Laws.EntriesVeiled
namespace Go.Proofs.Qxb6002353a
open Go.RowKit Go.Maps

theorem Net.add {wr W5 W6 : World} {k i ndb rcb : Nat} {Fs : Nat → Fx} {Ss : Nat → Nat → Prop} {E : Nat → Prop} {Dd : UInt8 → Prop} (n : Net wr k i ndb rcb Fs Ss E Dd 0 (fun _ => No) (fun _ => True)) (hik : i < k) {F : Fx} {ab rb cb : Nat}
    (hW5 : ∀ b, b < wr.heap.size → b ≠ rcb → W5.heap[b]? = wr.heap[b]?) (_hsz : wr.heap.size ≤ W5.heap.size) (hR5 : W5.rowIs rcb 36 k (put (ptrs Fs Fx.rb i) i (.pointer (some ⟨rb, 0, none⟩)))) (hrb : wr.heap.size ≤ rb ∧ rb < W5.heap.size) (hcb : wr.heap.size ≤ cb ∧ cb < W5.heap.size)
    (hid : F.id = nm i) (hFr : F.rb = rb) (hnode : NodeOK (freshS W5 W6 rb cb) W6 F Dd 0 0 ab 1 [F.sb] (Phi F 0 No No)) (hb : Below W5.heap.size W5 W6) :
    Net (W6.setCell ⟨ndb, i, none⟩ (.pointer (some ⟨F.nb, 0, none⟩))) k (i + 1) ndb rcb (upd Fs i F) (upd Ss i (freshS W5 W6 rb cb)) E Dd 0 (fun _ => No) (fun _ => True) := by
  have hndl := n.eL _ n.eN
  have hrcl := n.eL _ n.eR
  have z7 : (W6.setCell ⟨ndb, i, none⟩ (.pointer (some ⟨F.nb, 0, none⟩))).heap.size = W6.heap.size := by simp [World.setCell]
  have hs6 := hb.size
  have k7 : ∀ b, b ≠ ndb → (W6.setCell ⟨ndb, i, none⟩ (.pointer (some ⟨F.nb, 0, none⟩))).heap[b]? = W6.heap[b]? := fun b hne => Below.heap_setCell _ _ _ _ hne
  have k6 : ∀ b, b < wr.heap.size → b ≠ rcb → W6.heap[b]? = wr.heap[b]? := fun b h1 h2 => (hb.block b (by omega)).trans (hW5 b h1 h2)
  have hN6 : W6.rowIs ndb 34 k (ptrs Fs Fx.nb i) := World.rowIs.of_block n.nrow (k6 _ hndl n.ne)
  have hR6 : W6.rowIs rcb 36 k (put (ptrs Fs Fx.rb i) i (.pointer (some ⟨rb, 0, none⟩))) := World.rowIs.of_block hR5 (hb.block _ (by omega))
  have fr : ∀ b, freshS W5 W6 rb cb b → wr.heap.size ≤ b ∧ b < W6.heap.size := fun b h => by
    rcases h with e | e | e
    · rw [e]; omega
    · rw [e]; omega
    · omega
  refine ⟨?_, ?_, ?_, ?_, ?_, ?_, n.eN, n.eR, fun b hb' => by rw [z7]; have := n.eL b hb'; omega, n.ne⟩
  · refine World.rowIs.congr (rowIs_put hN6 i (.pointer (some ⟨F.nb, 0, none⟩))) (fun x _ => ?_)
    unfold ptrs
    by_cases e : x = i
    · subst e
      rw [put_same, if_pos (by omega), upd_same]
    · rw [put_other _ _ _ _ e]
      by_cases h : x < i
      · rw [if_pos h, if_pos (by omega), upd_other _ _ _ _ e]
      · rw [if_neg h, if_neg (by omega)]
  · refine World.rowIs.congr (World.rowIs.of_block hR6 (k7 _ (fun e => n.ne e.symm))) (fun x _ => ?_)
    unfold ptrs
    by_cases e : x = i
    · subst e
      rw [put_same, if_pos (by omega), upd_same, hFr]
    · rw [put_other _ _ _ _ e]
      by_cases h : x < i
      · rw [if_pos h, if_pos (by omega), upd_other _ _ _ _ e]
      · rw [if_neg h, if_neg (by omega)]
  · intro x hx
    by_cases e : x = i
    · subst e; rw [upd_same]; exact hid
    · rw [upd_other _ _ _ _ e]; exact n.id x (by omega)
  · intro x hx
    by_cases e : x = i
    · subst e
      rw [upd_same, upd_same]
      exact ⟨0, ab, 1, [F.sb], No, hnode.blocks (fun b hb' => k7 b (by have := fr b hb'; omega)), fun _ => rfl⟩
    · rw [upd_other _ _ _ _ e, upd_other _ _ _ _ e]
      refine (n.node x (by omega)).blocks (fun b hb' => ?_)
      have hl := n.low x (by omega) b hb'
      exact (k7 b (fun e' => hl.2 (by rw [e']; exact n.eN))).trans (k6 b hl.1 (fun e' => hl.2 (by rw [e']; exact n.eR)))
  · intro x hx b hb'
    by_cases e : x = i
    · subst e
      rw [upd_same] at hb'
      have := fr b hb'
      exact ⟨by rw [z7]; omega, fun e' => by have := n.eL b e'; omega⟩
    · rw [upd_other _ _ _ _ e] at hb'
      have hl := n.low x (by omega) b hb'
      exact ⟨by rw [z7]; omega, hl.2⟩
  · intro x y hx hy hne b h1 h2
    by_cases e1 : x = i
    · subst e1
      rw [upd_same] at h1
      rw [upd_other _ _ _ _ (fun e => hne e.symm)] at h2
      have := fr b h1
      have := n.low y (by omega) b h2
      omega
    · rw [upd_other _ _ _ _ e1] at h1
      by_cases e2 : y = i
      · subst e2
        rw [upd_same] at h2
        have := fr b h2
        have := n.low x (by omega) b h1
        omega
      · rw [upd_other _ _ _ _ e2] at h2
        exact n.dis x y (by omega) (by omega) hne b h1 h2

def BldPost (w : World) (k rcb : Nat) (Dd : UInt8 → Prop) (e : Ending) (w' : World) : Prop :=
  ∃ ndb Fs Ss, e = .returned (.slice (some ⟨ndb, 0, none⟩) k k) ∧ w.heap.size ≤ ndb ∧ Net w' k k ndb rcb Fs Ss (fun i => i < w.heap.size ∨ i = ndb) Dd 0 (fun _ => No) (fun _ => True) ∧ Touch (fun i => i = rcb) w w'

theorem row_ofB (c : Array Value) : ∀ i, i < c.size → c[i]? = some (c.getD i undef) := fun i hi => by simp [Array.getD, hi]
theorem info34 : (Try.prog.info? 34).map (fun i => (i.zero, i.size, i.bytes)) = some (some (.pointer none), 1, 8) := by kernel_rfl
theorem neq26 (a : Addr) (n c : Nat) (w : World) : (binOp .neq 26 (.slice (some a) n c) (.slice none 0 0)).run Try.prog w = .ok (.bool true) w := by kernel_rfl

set_option maxHeartbeats 16000000 in
set_option maxRecDepth 100000 in
theorem build_any {w : World} {k rcb : Nat} (hk : k ≤ 5) {Dd : UInt8 → Prop} (hD : ∀ u, Dd u → IsNm u) (lf al : Int) (hr : w.rowIs rcb 36 k (fun _ => .pointer none)) :
    Calls Try.prog 8 #[.int .i64 (k : Int), .int .i64 lf, .int .i64 al, .slice (some ⟨rcb, 0, none⟩) k k] w (BldPost w k rcb Dd) := by
  have HR := hide0 hr
  have HD := hide0 hD
  have hrl := World.rowIs.lt hr
  have hmk : ∀ w : World, (Instr.makeSlice 27 (.int .i64 (k : Int)) (.int .i64 (k : Int))).run Try.prog w = .ok (.slice (some ⟨w.heap.size, 0, none⟩) k k) (w.alloc (.cells (madeCells #[.pointer none] k) 34)) :=
    fun w => run_make_row' 27 34 _ 8 Try.underlying27 info34 rfl .i64 .i64 k (by omega) (by omega) w
  have hneq := neq26
  clear hr hD
  go_enter Try.func8, Try.ntmps8
  go_wp2_with fail
  go_loopw [10] (fun s wr => ∃ i : Nat, i ≤ k ∧ s = .int .i64 i ∧ ∃ Fs Ss, Net wr k i w.heap.size rcb Fs Ss (fun j => j < w.heap.size ∨ j = w.heap.size) Dd 0 (fun _ => No) (fun _ => True) ∧ Touch (fun i => i = rcb) w wr) (fun s _ => k - (intOf s).toNat)
  case atStart =>
    refine ⟨0, Nat.zero_le _, rfl, fun _ => ⟨0, 0, 0, 0, 0, 0, 0, 0⟩, fun _ _ => False, ?_, (Touch.refl _ _).alloc _⟩
    exact ⟨World.rowIs.congr (World.rowIs_made w _ k 34) (fun _ _ => by simp [ptrs]), World.rowIs.congr (World.rowIs.alloc HR.out _) (fun _ _ => by simp [ptrs]), by omega, by omega, by omega, by omega, .inr rfl, .inl hrl, fun i hi => by simp; omega, by omega⟩
  case round =>
    obtain ⟨i, hi, rfl, Fs, Ss, hn, ht⟩ := hrel
    by_cases hlt : i < k
    · have HN := hide0 hn
      have HT := hide0 ht
      have hrow := hn.rrow
      have d1 : wr.cell? ⟨rcb, i, none⟩ = some (.pointer none) := by
        rw [World.rowIs.cell hrow hlt]; simp [ptrs]
      have f1 := World.rowIs.frozen hrow i
      have hrl2 := World.rowIs.lt hrow
      have hndl : w.heap.size < wr.heap.size := World.rowIs.lt hn.nrow
      clear hn ht hrow
      go_upto_region 10 with fail
      obtain ⟨W, hW⟩ : ∃ W, W = (((wr.setCell ⟨rcb, i, none⟩ (.pointer (some ⟨wr.heap.size + 1, 0, none⟩))).alloc (.cells #[.int .i64 lf, .int .i64 al, .func (.func 21) #[] #[.pointer (some ⟨wr.heap.size + 1 + 1, 0, none⟩)]] 55)).alloc (.cells #[.slice none 0 0, .bool false, .slice none 0 0] 38)).alloc (.cells #[.pointer (some ⟨wr.heap.size + 1, 0, none⟩)] 36) := ⟨_, rfl⟩
      have zs : (wr.setCell ⟨rcb, i, none⟩ (.pointer (some ⟨wr.heap.size + 1, 0, none⟩))).heap.size = wr.heap.size := by simp [World.setCell]
      have hWs : W.heap.size = wr.heap.size + 3 := by rw [hW]; simp [zs]
      have kk : ∀ b, b < wr.heap.size → W.heap[b]? = (wr.setCell ⟨rcb, i, none⟩ (.pointer (some ⟨wr.heap.size + 1, 0, none⟩))).heap[b]? := fun b hb => by
        rw [hW]
        exact (Below.heap_alloc _ _ _ (by simp [zs]; omega)).trans ((Below.heap_alloc _ _ _ (by simp [zs]; omega)).trans (Below.heap_alloc _ _ _ (by rw [zs]; exact hb)))
      have k5 : ∀ b, b < wr.heap.size → b ≠ rcb → W.heap[b]? = wr.heap[b]? := fun b hb hne => (kk b hb).trans (Below.heap_setCell _ _ _ _ hne)
      have r5 : W.rowIs rcb 36 k (put (ptrs Fs Fx.rb i) i (.pointer (some ⟨wr.heap.size + 1, 0, none⟩))) := World.rowIs.of_block (rowIs_put HN.out.rrow i _) (kk _ hrl2)
      have rcb5 : W.rowIs (wr.heap.size + 2) 36 1 (fun _ => .pointer (some ⟨wr.heap.size + 1, 0, none⟩)) := by
        have h0 := World.rowIs_alloc (((wr.setCell ⟨rcb, i, none⟩ (.pointer (some ⟨wr.heap.size + 1, 0, none⟩))).alloc (.cells #[.int .i64 lf, .int .i64 al, .func (.func 21) #[] #[.pointer (some ⟨wr.heap.size + 1 + 1, 0, none⟩)]] 55)).alloc (.cells #[.slice none 0 0, .bool false, .slice none 0 0] 38)) #[.pointer (some ⟨wr.heap.size + 1, 0, none⟩)] 36 (fun _ => .pointer (some ⟨wr.heap.size + 1, 0, none⟩)) (fun j hj => by
          have : j = 0 := by simpa using hj
          subst this; rfl)
        rw [← hW] at h0
        simp only [World.size_alloc, zs] at h0
        exact h0
      have rrb5 : W.rowIs (wr.heap.size + 1) 38 3 nilRec := by
        have h0 := World.rowIs_alloc ((wr.setCell ⟨rcb, i, none⟩ (.pointer (some ⟨wr.heap.size + 1, 0, none⟩))).alloc (.cells #[.int .i64 lf, .int .i64 al, .func (.func 21) #[] #[.pointer (some ⟨wr.heap.size + 1 + 1, 0, none⟩)]] 55)) #[.slice none 0 0, .bool false, .slice none 0 0] 38 nilRec (fun j hj => by
          have : j = 0 ∨ j = 1 ∨ j = 2 := by simp at hj; omega
          rcases this with rfl | rfl | rfl <;> rfl)
        simp only [World.size_alloc, zs] at h0
        rw [hW]
        exact World.rowIs.alloc h0 _
      have rcf : W.rowIs wr.heap.size 55 3 (fun j => #[.int .i64 lf, .int .i64 al, .func (.func 21) #[] #[.pointer (some ⟨wr.heap.size + 1 + 1, 0, none⟩)]].getD j undef) := by
        have h0 := World.rowIs_alloc (wr.setCell ⟨rcb, i, none⟩ (.pointer (some ⟨wr.heap.size + 1, 0, none⟩))) #[.int .i64 lf, .int .i64 al, .func (.func 21) #[] #[.pointer (some ⟨wr.heap.size + 1 + 1, 0, none⟩)]] 55 (fun j => #[.int .i64 lf, .int .i64 al, .func (.func 21) #[] #[.pointer (some ⟨wr.heap.size + 1 + 1, 0, none⟩)]].getD j undef) (row_ofB _)
        simp only [zs] at h0
        rw [hW]
        exact World.rowIs.alloc (World.rowIs.alloc h0 _) _
      have q0 : W.cell? ⟨wr.heap.size, 0, none⟩ = some (.int .i64 lf) := World.rowIs.cell rcf (i := 0) (by omega)
      have q1 : W.cell? ⟨wr.heap.size, 1, none⟩ = some (.int .i64 al) := World.rowIs.cell rcf (i := 1) (by omega)
      have q2 : W.cell? ⟨wr.heap.size, 2, none⟩ = some (.func (.func 21) #[] #[.pointer (some ⟨wr.heap.size + 1 + 1, 0, none⟩)]) := World.rowIs.cell rcf (i := 2) (by omega)
      have hql : wr.heap.size < W.heap.size := by omega
      have HNEW := hide0 (new_any (w := W.drew) (rb := wr.heap.size + 1) (cb := wr.heap.size + 1 + 1) (nm_is (i := i) (by omega)) HD.out lf al rcb5 rrb5)
      have HK6 : Hid (∀ W6, Below W.drew.heap.size W.drew W6 → W6.rowIs w.heap.size 34 k (ptrs Fs Fx.nb i)) := fun W6 hb => World.rowIs.of_block HN.out.nrow ((hb.block _ (by show w.heap.size < W.heap.size; omega)).trans (k5 _ hndl (by omega)))
      have HADD : Hid (∀ W6 F ab', F.id = nm i → F.rb = wr.heap.size + 1 → NodeOK (freshS W.drew W6 (wr.heap.size + 1) (wr.heap.size + 1 + 1)) W6 F Dd 0 0 ab' 1 [F.sb] (Phi F 0 No No) → Below W.drew.heap.size W.drew W6 → Net (W6.setCell ⟨w.heap.size, i, none⟩ (.pointer (some ⟨F.nb, 0, none⟩))) k (i + 1) w.heap.size rcb (upd Fs i F) (upd Ss i (freshS W.drew W6 (wr.heap.size + 1) (wr.heap.size + 1 + 1))) (fun j => j < w.heap.size ∨ j = w.heap.size) Dd 0 (fun _ => No) (fun _ => True)) := fun W6 F ab' h1 h2 h3 h4 =>
        Net.add HN.out hlt (W5 := W.drew) (fun b hb hne => k5 b hb hne) (by show wr.heap.size ≤ W.heap.size; omega) r5 ⟨by omega, by show _ < W.heap.size; omega⟩ ⟨by omega, by show _ < W.heap.size; omega⟩ h1 h2 h3 h4
      have HTW : Hid (Touch (fun i => i = rcb) w W.drew) := by
        have h1 : Touch (fun i => i = rcb) w W := by
          rw [hW]
          exact (((HT.out.setCell (.inl rfl) _).alloc _).alloc _).alloc _
        exact h1.drewN 1
      rw [← hW]
      clear hW zs hWs kk k5 r5 rcb5 rrb5 rcf d1 f1
      go_region_with (first
        | (go_at_call 24; refine (idof_any i (by omega) _).mono ?_; rintro e w' ⟨rfl, rfl⟩)
        | (go_at_call 23; refine HNEW.out.mono ?_; rintro e W6 ⟨F, ab', rfl, hF1, hF2, hnd, hbl⟩; have g1 := World.rowIs.cell (HK6.out W6 hbl) (i := i) hlt; have g2 := World.rowIs.frozen (HK6.out W6 hbl) i; have HA := hide0 (HADD.out W6 F ab' hF1 hF2 hnd hbl); have HT6 := hide0 (HTW.out.below hbl); have hsz6 : w.heap.size < W6.heap.size := World.rowIs.lt (HK6.out W6 hbl); clear hnd hbl))
      all_goals (try go_wp2_with fail)
      all_goals
        go_roundw
        case rel => exact ⟨i + 1, by omega, by go_num, _, _, HA.out, HT6.out.setCell (.inr ⟨Nat.le_refl _, hsz6⟩) _⟩
        case measure => simp [intOf]; omega
    · have HN := hide0 hn
      have HT := hide0 ht
      clear hn ht
      go_wp2_with fail
      go_ret
      have e : i = k := by omega
      subst e
      exact ⟨w.heap.size, Fs, Ss, rfl, Nat.le_refl _, HN.out, HT.out⟩
end Go.Proofs.Qxb6002353a
