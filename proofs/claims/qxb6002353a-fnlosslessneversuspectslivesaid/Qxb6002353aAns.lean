import Derived.Test.Qxb6002353aApp
import Derived.Deep.RegionLaw
import Derived.Deep.DeepCutAuto
namespace Go.Proofs.Qxb6002353a
open Go.RowKit Go.Maps

theorem info40 : (Try.prog.info? 40).map (fun i => (i.zero, i.size, i.bytes)) = some (some (.int .u64 0), 1, 8) := by kernel_rfl

section
variable {S : Nat → Prop} {w w1 : World} {F : Fx} {Dd K : UInt8 → Prop} {c : Nat} {r : Int} {ab cap : Nat} {L : List Nat} {φ : Nat → UInt8 → Value → Value → Value → Prop} {N G : Nat → Value} {pid : Nat → UInt8} {P : Nat → Nat → Value}

theorem own_base {w : World} {base e size n : Nat} {v : Value} {xs : List Value} (h : w.ownsRow base e size v n xs) : w.ownsRow 0 e size v n xs := by
  refine ⟨h.1, ?_⟩
  rcases h.2 with e | ⟨g, cp, cur, a1, a2, a3⟩
  · exact .inl e
  · exact .inr ⟨g, cp, cur, a1, Nat.zero_le _, a3⟩

/-- the blocks of S that are there -/
def here (S : Nat → Prop) (w : World) : Nat → Prop := fun i => S i ∧ i < w.heap.size

theorem NodeIs.restrict (h : NodeIs S w F Dd c r ab cap L φ N G pid P K) : NodeIs (here S w) w F Dd c r ab cap L φ N G pid P K := by
  obtain ⟨s1, s2, s3, s4, s5, s6, s7, s8⟩ := h.inS
  exact { h with
    car := by
      obtain ⟨xs, h1, h2, h3, h4⟩ := h.car
      exact ⟨xs, h1, h2, h3, fun g hg => ⟨h4 g hg, (h1.lt g hg).2⟩⟩
    recd := by
      obtain ⟨iv, fv, bad, xi, xf, h1, h2, h3, h4, h5, h6, h7, h8, h9⟩ := h.recd
      exact ⟨iv, fv, bad, xi, xf, h1, h2, h3, h4, h5, h6, fun g hg => ⟨h7 g hg, (h2.lt g hg).2⟩, fun g hg => ⟨h8 g hg, (h3.lt g hg).2⟩, h9⟩
    inS := by
      refine ⟨⟨s1, World.rowIs.lt h.nrow⟩, ⟨s2, World.rowIs.lt h.brow⟩, fun b hb => ⟨s3 b hb, World.rowIs.lt (h.peer b hb).1.row⟩, ⟨s4, ?_⟩, ⟨s5, ?_⟩, ⟨s6, ?_⟩, ⟨s7, ?_⟩, ⟨s8, World.rowIs.lt h.cbox⟩⟩
      · obtain ⟨D, a1, _⟩ := h.pmap; exact a1.lt
      · obtain ⟨D, a1, _⟩ := h.qmap; exact a1.lt
      · obtain ⟨D, a1, _⟩ := h.nmap; exact a1.lt
      · obtain ⟨iv, fv, bad, xi, xf, h1, _⟩ := h.recd; exact World.rowIs.lt h1 }

/-- the count of the queries to answer is set -/
theorem NodeIs.setA (h : NodeIs S w F Dd c r ab cap L φ N G pid P K) (a : Int) (ha : 0 ≤ a) (hc : a ≤ c) : NodeIs S (w.setCell ⟨F.nb, 7, none⟩ (.int .i64 a)) F Dd c r ab cap L φ (put N 7 (.int .i64 a)) G pid P K := by
  have g := grownBy_setCell w ⟨F.nb, 7, none⟩ (.int .i64 a)
  have o : ∀ j, j ≠ 7 → put N 7 (.int .i64 a) j = N j := fun j hj => put_other N 7 j _ hj
  refine h.setN g (rowIs_put h.nrow 7 _) (o 0 (by decide)) (o 3 (by decide)) (o 4 (by decide)) (o 5 (by decide)) ⟨a, put_same _ _ _, ha, hc⟩ (o 8 (by decide)) ?_ (o 11 (by decide)) (by rw [o 12 (by decide)]; exact h.n12) ?_
  · rw [o 9 (by decide)]
    exact h.car.kept g (fun gg hgg e => by cases e; have := h.car.tag hgg; rw [tag_row h.nrow] at this; cases this)
  · intro j hj
    by_cases e : j = 7
    · subst e; rw [put_same]; exact Ty.mki _
    · rw [o j e]; exact h.nty j hj
end

/-- what 'answer' touches: the node and its peers, and the message -/
def AT (S : Nat → Prop) (w : World) (mb : Nat) : Nat → Prop := fun i => (S i ∧ tag w i ≠ 92) ∨ i = mb

/-- a message that is being filled in: its answers are xa, its rounds rs -/
def AnsX (S T : Nat → Prop) (w wd : World) (F : Fx) (Dd : UInt8 → Prop) (c : Nat) (r : Int) (ab cap : Nat) (L : List Nat) (φ : Nat → UInt8 → Value → Value → Value → Prop) (mb : Nat) (M : Nat → Value) (xa : List UInt8) (rs : List Int) : Prop :=
  NodeOK S wd F Dd c r ab cap L φ ∧ Touch T w wd ∧ (∀ z ∈ rs, 0 ≤ z) ∧ ∃ av rv, wd.rowIs mb 44 10 (put (put M 8 av) 9 rv) ∧ wd.ownsRow w.heap.size 9 1 av xa.length (xa.map fun u => .string (idb u)) ∧ wd.ownsRow w.heap.size 40 1 rv rs.length (rs.map fun z => .int .u64 z)

section
variable {S T : Nat → Prop} {w wr w5 : World} {F : Fx} {Dd : UInt8 → Prop} {c : Nat} {r : Int} {ab cap : Nat} {L : List Nat} {φ : Nat → UInt8 → Value → Value → Value → Prop} {mb : Nat} {M : Nat → Value} {xa : List UInt8} {rs : List Int} {av rv v' : Value}

theorem put_back (M : Nat → Value) (a b v : Value) : put (put (put M 8 a) 9 b) 8 v = put (put M 8 v) 9 b := by
  funext i
  unfold put
  by_cases h8 : i = 8
  · subst h8; simp
  · simp [h8]
theorem put_again (M : Nat → Value) (a b v : Value) : put (put (put M 8 a) 9 b) 9 v = put (put M 8 a) 9 v := by
  funext i
  unfold put
  by_cases h8 : i = 9
  · subst h8; simp
  · simp [h8]

theorem AnsX.pushA (hS : ∀ i, S i → i < w.heap.size ∧ i ≠ mb) (hT : T mb) (hmb : mb < w.heap.size)
    (h : NodeOK S wr F Dd c r ab cap L φ) (ht : Touch T w wr) (hz : ∀ z ∈ rs, 0 ≤ z) (hrow : wr.rowIs mb 44 10 (put (put M 8 av) 9 rv)) (ha : wr.ownsRow w.heap.size 9 1 av xa.length (xa.map fun u => .string (idb u))) (hr : wr.ownsRow w.heap.size 40 1 rv rs.length (rs.map fun z => .int .u64 z))
    {u : UInt8} (hown5 : w5.ownsRow w.heap.size 9 1 v' (xa.length + 1) ((xa.map fun u => .string (idb u)) ++ [.string (idb u)])) (hg0 : wr.grownBy w5 av.ownBlock) :
    AnsX S T w (w5.setCell ⟨mb, 8, none⟩ v') F Dd c r ab cap L φ mb M (xa ++ [u]) rs := by
  have g2 := grownBy_setCell w5 ⟨mb, 8, none⟩ v'
  obtain ⟨N, G, pid, P, K, h⟩ := h
  have hws := ht.size
  have h1 := h.far hg0 (fun k e hk => by have := (ha.lt k e).1; have := (hS k hk).1; omega)
  have h2 := h1.far g2 (fun k e hk => by cases e; exact (hS _ hk).2 rfl)
  have hr5 := rowIs_kept hrow hg0 (fun e => by have := (ha.lt mb e.symm).1; omega)
  refine ⟨⟨_, _, _, _, _, h2⟩, ?_, hz, v', rv, ?_, ?_, ?_⟩
  · exact Touch.setCell (ht.grown hg0 (fun k e => .inr ⟨(ha.lt k e).1, (ha.lt k e).2⟩)) (.inl hT) _
  · rw [← put_back M av rv v']; exact rowIs_put hr5 8 v'
  · rw [List.length_append, List.length_singleton, List.map_append]
    refine hown5.kept g2 ?_
    cases hv : v'.ownBlock with
    | none => exact .inl rfl
    | some g => exact .inr (fun e => by cases e; have := (hown5.lt _ hv).1; simp at this; omega)
  · cases hv : rv.ownBlock with
    | none =>
      have k1 := hr.kept hg0 (.inl hv)
      exact k1.kept g2 (.inl hv)
    | some g =>
      have k1 := hr.kept hg0 (.inr (fun e => by
        rw [hv] at e
        have t1 := tag_own hr hv
        have t2 := tag_own ha e.symm
        rw [t1] at t2
        cases t2))
      exact k1.kept g2 (.inr (fun e => by rw [hv] at e; cases e; have := (hr.lt _ hv).1; simp at this; omega))

theorem AnsX.pushR (hS : ∀ i, S i → i < w.heap.size ∧ i ≠ mb) (hT : T mb) (hmb : mb < w.heap.size)
    (h : NodeOK S wr F Dd c r ab cap L φ) (ht : Touch T w wr) (hz : ∀ z ∈ rs, 0 ≤ z) (hrow : wr.rowIs mb 44 10 (put (put M 8 av) 9 rv)) (ha : wr.ownsRow w.heap.size 9 1 av xa.length (xa.map fun u => .string (idb u))) (hr : wr.ownsRow w.heap.size 40 1 rv rs.length (rs.map fun z => .int .u64 z))
    {t : Int} (ht0 : 0 ≤ t) (hown5 : w5.ownsRow w.heap.size 40 1 v' (rs.length + 1) ((rs.map fun z => .int .u64 z) ++ [.int .u64 t])) (hg0 : wr.grownBy w5 rv.ownBlock) :
    AnsX S T w (w5.setCell ⟨mb, 9, none⟩ v') F Dd c r ab cap L φ mb M xa (rs ++ [t]) := by
  have g2 := grownBy_setCell w5 ⟨mb, 9, none⟩ v'
  obtain ⟨N, G, pid, P, K, h⟩ := h
  have hws := ht.size
  have h1 := h.far hg0 (fun k e hk => by have := (hr.lt k e).1; have := (hS k hk).1; omega)
  have h2 := h1.far g2 (fun k e hk => by cases e; exact (hS _ hk).2 rfl)
  have hr5 := rowIs_kept hrow hg0 (fun e => by have := (hr.lt mb e.symm).1; omega)
  refine ⟨⟨_, _, _, _, _, h2⟩, ?_, ?_, av, v', ?_, ?_, ?_⟩
  · exact Touch.setCell (ht.grown hg0 (fun k e => .inr ⟨(hr.lt k e).1, (hr.lt k e).2⟩)) (.inl hT) _
  · intro z hzz
    rcases List.mem_append.1 hzz with e | e
    · exact hz z e
    · simp only [List.mem_singleton] at e; rw [e]; exact ht0
  · rw [← put_again M av rv v']; exact rowIs_put hr5 9 v'
  · cases hv : av.ownBlock with
    | none =>
      have k1 := ha.kept hg0 (.inl hv)
      exact k1.kept g2 (.inl hv)
    | some g =>
      have k1 := ha.kept hg0 (.inr (fun e => by
        rw [hv] at e
        have t1 := tag_own ha hv
        have t2 := tag_own hr e.symm
        rw [t1] at t2
        cases t2))
      exact k1.kept g2 (.inr (fun e => by rw [hv] at e; cases e; have := (ha.lt _ hv).1; simp at this; omega))
  · rw [List.length_append, List.length_singleton, List.map_append]
    refine hown5.kept g2 ?_
    cases hv : v'.ownBlock with
    | none => exact .inl rfl
    | some g => exact .inr (fun e => by cases e; have := (hown5.lt _ hv).1; simp at this; omega)

/-- two rows have been made, empty, and laid in the message -/
theorem AnsX.start (hS : ∀ i, S i → i < w.heap.size ∧ i ≠ mb) (hT : T mb) (h : NodeOK S w F Dd c r ab cap L φ) (hrow : w.rowIs mb 44 10 M)
    (w2 : World) (hb : Below w.heap.size ((w.setCell ⟨mb, 8, none⟩ av).setCell ⟨mb, 9, none⟩ rv) w2) (ha : w2.ownsRow w.heap.size 9 1 av 0 []) (hr : w2.ownsRow w.heap.size 40 1 rv 0 []) :
    AnsX S T w w2 F Dd c r ab cap L φ mb M [] [] := by
  have g1 := grownBy_setCell w ⟨mb, 8, none⟩ av
  have g2 := grownBy_setCell (w.setCell ⟨mb, 8, none⟩ av) ⟨mb, 9, none⟩ rv
  have e2 : ((w.setCell ⟨mb, 8, none⟩ av).setCell ⟨mb, 9, none⟩ rv).heap.size = w.heap.size := by simp [World.setCell]
  have hb' : Below ((w.setCell ⟨mb, 8, none⟩ av).setCell ⟨mb, 9, none⟩ rv).heap.size ((w.setCell ⟨mb, 8, none⟩ av).setCell ⟨mb, 9, none⟩ rv) w2 := by rw [e2]; exact hb
  obtain ⟨N, G, pid, P, K, h⟩ := h
  have h1 := h.far g1 (fun k e hk => by cases e; exact (hS _ hk).2 rfl)
  have h2 := h1.far g2 (fun k e hk => by cases e; exact (hS _ hk).2 rfl)
  refine ⟨⟨_, _, _, _, _, h2.below hb'⟩, (Touch.setCell (Touch.setCell (Touch.refl _ _) (.inl hT) _) (.inl hT) _).below hb', ?_, av, rv, ?_, ha, hr⟩
  · intro z hz; cases hz
  · have h3 := rowIs_put (rowIs_put hrow 8 av) 9 rv
    exact h3.of_block (hb.block mb (World.rowIs.lt hrow))

theorem AnsX.startA (hS : ∀ i, S i → i < w.heap.size ∧ i ≠ mb) (hT : T mb) (h : NodeOK S w F Dd c r ab cap L φ) (hrow : w.rowIs mb 44 10 M) (an : Nat) (han : an ≤ 1000000) :
    AnsX S T w ((((w.setCell ⟨mb, 8, none⟩ (.slice (some ⟨w.heap.size, 0, none⟩) 0 an)).setCell ⟨mb, 9, none⟩ (.slice (some ⟨w.heap.size + 1, 0, none⟩) 0 an)).alloc (.cells (madeCells #[.string ByteArray.empty] an) 9)).alloc (.cells (madeCells #[.int .u64 0] an) 40)).drew F Dd c r ab cap L φ mb M [] [] := by
  generalize hw1 : (w.setCell ⟨mb, 8, none⟩ (.slice (some ⟨w.heap.size, 0, none⟩) 0 an)).setCell ⟨mb, 9, none⟩ (.slice (some ⟨w.heap.size + 1, 0, none⟩) 0 an) = w1
  have e1 : w1.heap.size = w.heap.size := by rw [← hw1]; simp [World.setCell]
  have e2 : (w1.alloc (.cells (madeCells #[.string ByteArray.empty] an) 9)).heap.size = w.heap.size + 1 := by simp [e1]
  have m1 := World.ownsRow_made (base := w.heap.size) (e := 9) (size := 1) w1 (madeCells #[.string ByteArray.empty] an) an (by omega) (by unfold maxLen; omega) (by rw [size_madeCells]; omega)
  have m2 := World.ownsRow_made (base := w.heap.size) (e := 40) (size := 1) (w1.alloc (.cells (madeCells #[.string ByteArray.empty] an) 9)) (madeCells #[.int .u64 0] an) an (by omega) (by unfold maxLen; omega) (by rw [size_madeCells]; omega)
  rw [e1] at m1
  rw [e2] at m2
  refine AnsX.start (av := .slice (some ⟨w.heap.size, 0, none⟩) 0 an) (rv := .slice (some ⟨w.heap.size + 1, 0, none⟩) 0 an) hS hT h hrow _ ?_ (m1.alloc _) m2
  rw [hw1]
  have hb := ((Below.refl w.heap.size w1).alloc (by omega) (.cells (madeCells #[.string ByteArray.empty] an) 9)).alloc (by rw [e2]; omega) (.cells (madeCells #[.int .u64 0] an) 40)
  exact ⟨hb.os, hb.tape, hb.output, hb.size, hb.block⟩

theorem AnsX.startB (hS : ∀ i, S i → i < w.heap.size ∧ i ≠ mb) (hT : T mb) (h : NodeOK S w F Dd c r ab cap L φ) (hrow : w.rowIs mb 44 10 M) (an : Nat) (han : an ≤ 1000000) :
    AnsX S T w ((((w.setCell ⟨mb, 8, none⟩ (.slice (some ⟨w.heap.size + 1, 0, none⟩) 0 an)).setCell ⟨mb, 9, none⟩ (.slice (some ⟨w.heap.size, 0, none⟩) 0 an)).alloc (.cells (madeCells #[.int .u64 0] an) 40)).alloc (.cells (madeCells #[.string ByteArray.empty] an) 9)).drew F Dd c r ab cap L φ mb M [] [] := by
  generalize hw1 : (w.setCell ⟨mb, 8, none⟩ (.slice (some ⟨w.heap.size + 1, 0, none⟩) 0 an)).setCell ⟨mb, 9, none⟩ (.slice (some ⟨w.heap.size, 0, none⟩) 0 an) = w1
  have e1 : w1.heap.size = w.heap.size := by rw [← hw1]; simp [World.setCell]
  have e2 : (w1.alloc (.cells (madeCells #[.int .u64 0] an) 40)).heap.size = w.heap.size + 1 := by simp [e1]
  have m1 := World.ownsRow_made (base := w.heap.size) (e := 40) (size := 1) w1 (madeCells #[.int .u64 0] an) an (by omega) (by unfold maxLen; omega) (by rw [size_madeCells]; omega)
  have m2 := World.ownsRow_made (base := w.heap.size) (e := 9) (size := 1) (w1.alloc (.cells (madeCells #[.int .u64 0] an) 40)) (madeCells #[.string ByteArray.empty] an) an (by omega) (by unfold maxLen; omega) (by rw [size_madeCells]; omega)
  rw [e1] at m1
  rw [e2] at m2
  refine AnsX.start (av := .slice (some ⟨w.heap.size + 1, 0, none⟩) 0 an) (rv := .slice (some ⟨w.heap.size, 0, none⟩) 0 an) hS hT h hrow _ ?_ m2 (m1.alloc _)
  rw [hw1]
  have hb := ((Below.refl w.heap.size w1).alloc (by omega) (.cells (madeCells #[.int .u64 0] an) 40)).alloc (by rw [e2]; omega) (.cells (madeCells #[.string ByteArray.empty] an) 9)
  exact ⟨hb.os, hb.tape, hb.output, hb.size, hb.block⟩

def AnsPost (S : Nat → Prop) (w : World) (F : Fx) (Dd : UInt8 → Prop) (c : Nat) (r : Int) (ab cap : Nat) (L : List Nat) (φ : Nat → UInt8 → Value → Value → Value → Prop) (mb : Nat) (M : Nat → Value) (e : Ending) (w' : World) : Prop :=
  e = .returned (.tuple #[]) ∧ ∃ xa rs, xa.length = rs.length ∧ xa.length ≤ 5 ∧ AnsX S (AT S w mb) w w' F Dd c r ab cap L φ mb M xa rs
end

set_option maxHeartbeats 16000000 in
set_option maxRecDepth 100000 in
theorem answer_any {S : Nat → Prop} {w : World} {F : Fx} {Dd : UInt8 → Prop} {c : Nat} {r : Int} {ab cap : Nat} {L : List Nat} {φ : Nat → UInt8 → Value → Value → Value → Prop} {mb : Nat} {M : Nat → Value} (h : NodeOK S w F Dd c r ab cap L φ) (hc : c ≤ 1000000) (hm : w.rowIs mb 44 10 M) (hmS : ¬ S mb) (hm8 : M 8 = .slice none 0 0) (hm9 : M 9 = .slice none 0 0) :
    Calls Try.prog 29 #[.pointer (some ⟨F.nb, 0, none⟩), .pointer (some ⟨mb, 0, none⟩)] w (AnsPost S w F Dd c r ab cap L φ mb M) := by
  have HMS : Hid (∀ i, here S w i → i < w.heap.size ∧ i ≠ mb) := fun i hi => ⟨hi.2, fun e => hmS (e ▸ hi.1)⟩
  have HM : Hid (w.rowIs mb 44 10 M) := hm
  have hml := World.rowIs.lt hm
  obtain ⟨N, G, pid, P, K, h⟩ := h
  have h := h.restrict
  have HN : Hid (NodeIs (here S w) w F Dd c r ab cap L φ N G pid P K) := h
  have HTB : Hid ((∀ b ∈ L, tag w b = 74) ∧ tag w F.nb = 65) := ⟨fun b hb => tag_row (h.peer b hb).1.row, tag_row h.nrow⟩
  obtain ⟨a, ha, ha0, hac⟩ := h.n7
  have c7 : w.cell? ⟨F.nb, 7, none⟩ = some (.int .i64 a) := by rw [← ha]; exact World.rowIs.cell h.nrow (by omega)
  have hnl := World.rowIs.lt h.nrow
  have hwin : Hid (∀ xa rs w', AnsX (here S w) (AT S w mb) w w' F Dd c r ab cap L φ mb M xa rs → AnsX S (AT S w mb) w w' F Dd c r ab cap L φ mb M xa rs) := fun xa rs w' h => ⟨h.1.monoS (fun _ e => e.1), h.2⟩
  obtain ⟨i9, hi9, hz0, hz1', hz2⟩ := info_parts info9
  obtain ⟨i4, hi4, hy0, hy1, hy2⟩ := info_parts info40
  by_cases haz : a = 0
  · subst haz
    go_enter Try.func29, Try.ntmps29
    go_wp2_with fail
    refine bodyPost_ret (results_none rfl _ _ _) rfl ?_
    refine ⟨rfl, [], [], rfl, Nat.zero_le _, hwin.out _ _ _ ⟨⟨_, _, _, _, _, HN.out⟩, Touch.refl _ _, ?_, .slice none 0 0, .slice none 0 0, ?_, World.ownsRow_nil _ _ _ _, World.ownsRow_nil _ _ _ _⟩⟩
    · intro z hz; cases hz
    · have e : put (put M 8 (.slice none 0 0)) 9 (.slice none 0 0) = M := by
        funext i
        unfold put
        by_cases e9 : i = 9
        · subst e9; simp [hm9]
        · by_cases e8 : i = 8
          · subst e8; simp [hm8]
          · simp [e8, e9]
      rw [e]; exact HM.out
  · obtain ⟨an, rfl⟩ : ∃ an : Nat, a = an := ⟨a.toNat, by omega⟩
    have hdz : decide ((an : Int) = 0) = false := decide_eq_false (by omega)
    have mk9 : ∀ w : World, (Instr.makeSlice 33 (.int .i64 0) (.int .i64 (an : Int))).run Try.prog w = .ok (.slice (some ⟨w.heap.size, 0, none⟩) 0 an) (w.alloc (.cells (madeCells (Value.string ByteArray.empty).cells (an * 1)) 9)) := fun w => by
      have := run_make (P := Try.prog) w 33 9 i9 (.string ByteArray.empty) Try.underlying33 hi9 hz0 .i64 .i64 0 an (Int.le_refl _) (by omega) (by rw [hz2]; omega) (by omega)
      rw [hz1'] at this
      simpa using this
    have mk4 : ∀ w : World, (Instr.makeSlice 42 (.int .i64 0) (.int .i64 (an : Int))).run Try.prog w = .ok (.slice (some ⟨w.heap.size, 0, none⟩) 0 an) (w.alloc (.cells (madeCells (Value.int .u64 0).cells (an * 1)) 40)) := fun w => by
      have := run_make (P := Try.prog) w 42 40 i4 (.int .u64 0) Try.underlying42 hi4 hy0 .i64 .i64 0 an (Int.le_refl _) (by omega) (by rw [hy2]; omega) (by omega)
      rw [hy1] at this
      simpa using this
    have c8 := World.rowIs.cell HM.out (i := 8) (by omega)
    have c9 := World.rowIs.cell HM.out (i := 9) (by omega)
    have f8 := World.rowIs.frozen HM.out 8
    have f9 := World.rowIs.frozen HM.out 9
    clear h
    go_enter Try.func29, Try.ntmps29
    go_upto_region 1 with fail
    go_cut [26] (fun _ wd => AnsX (here S w) (AT S w mb) w wd F Dd c r ab cap L φ mb M [] [])
    case first =>
      go_region
      all_goals (try go_wp2_with fail)
      all_goals go_meet
      all_goals first
        | exact AnsX.startA HMS.out (.inr rfl) ⟨_, _, _, _, _, HN.out⟩ HM.out an (by omega)
        | exact AnsX.startB HMS.out (.inr rfl) ⟨_, _, _, _, _, HN.out⟩ HM.out an (by omega)
    case rest =>
      have HC : Hid (AnsX (here S w) (AT S w mb) w wc F Dd c r ab cap L φ mb M [] []) := hcut
      clear mk9 mk4 c8 c9 f8 f9 c7 hdz HN HM
      obtain ⟨⟨N1, G1, pid1, P1, K1, hn1⟩, -⟩ := hcut
      have c5 : wc.cell? ⟨F.nb, 5, none⟩ = some (.slice (some ⟨ab, 0, none⟩) L.length cap) := by rw [← hn1.n5]; exact World.rowIs.cell hn1.nrow (by omega)
      have hnl1 := World.rowIs.lt hn1.nrow
      have hL5 := hn1.l5
      clear hn1
      go_wp2_with fail
      go_loopw [32] (fun i wr => ∃ j : Nat, j ≤ L.length ∧ i = .int .i64 j ∧ ∃ xa rs, xa.length = rs.length ∧ xa.length ≤ j ∧ AnsX (here S w) (AT S w mb) w wr F Dd c r ab cap L φ mb M xa rs) (fun i _ => L.length - (intOf i).toNat)
      case atStart => exact ⟨0, Nat.zero_le _, rfl, [], [], rfl, Nat.zero_le _, HC.out⟩
      case round =>
        clear HC c5 hnl1
        obtain ⟨j, hj, rfl, xa, rs, hxl, hxj, hx⟩ := hrel
        have HXL : Hid (xa.length = rs.length) := hxl
        clear hxl
        by_cases hlt : j < L.length
        · have HX : Hid (AnsX (here S w) (AT S w mb) w wr F Dd c r ab cap L φ mb M xa rs) := hx
          obtain ⟨⟨N1, G1, pid1, P1, K1, hn1⟩, ht1, hz1, av, rv, hr1, hav, hrv⟩ := hx
          have d0 : wr.cell? ⟨ab, j, none⟩ = some (.pointer (some ⟨L[j], 0, none⟩)) := by
            rw [← hn1.bptr j hlt]; exact World.rowIs.cell hn1.brow (by have := hn1.bcap; omega)
          have HB : Hid (L[j] ∈ L) := List.getElem_mem hlt
          generalize L[j] = b at d0 HB
          have hp := (hn1.peer b HB.out).1
          obtain ⟨t, ht0, p2⟩ := hp.cu 2 (by omega) rfl
          have fp2 := hp.fz 2
          have p0 : wr.cell? ⟨b, 0, none⟩ = some (.string (idb (pid1 b))) := by rw [← hp.p0]; exact World.rowIs.cell hp.row (by omega)
          have hbl := World.rowIs.lt hp.row
          have hml1 := World.rowIs.lt hr1
          generalize pid1 b = u at p0
          by_cases htz : t = 0
          · subst htz
            clear hn1 ht1 hz1 hr1 hav hrv hp
            go_wp2_with fail
            go_roundw
            case rel => exact ⟨j + 1, by omega, by go_num, xa, rs, HXL.out, by omega, HX.out⟩
            case measure => simp [intOf]; omega
          · have htd : decide (0 < t) = true := decide_eq_true (by omega)
            obtain ⟨pa, ca, ea, hpa, hca⟩ := own_at (own_base hav)
            subst ea
            have e8 : wr.cell? ⟨mb, 8, none⟩ = some (.slice pa xa.length ca) := World.rowIs.cell hr1 (by omega)
            obtain ⟨v', w5, hap, hown5, hg5, hnil5, hloc5⟩ := run_append_own_at (P := Try.prog) (wr.alloc (.cells #[.string (idb u)] 9)).drew w.heap.size 33 33 9 i9 (.string ByteArray.empty) 1 16 Try.underlying33 hi9 hz0 hz1' hz2 rfl (by decide) (.slice pa xa.length ca) xa.length (xa.map fun u => .string (idb u)) (hav.alloc _) ⟨wr.heap.size, 0, none⟩ 1 1 [.string (idb u)] rfl (cell_one_new _ _ _) (by simp [Value.oneCell']) (by unfold maxLen; omega) (by omega) (by have := ht1.size; simp; omega)
            obtain ⟨pa5, ca5, ea5, -, -⟩ := own_at (own_base hown5)
            subst ea5
            have hg0 : wr.grownBy w5 (Value.slice pa xa.length ca).ownBlock := by
              have e5s : w5.heap.size ≥ wr.heap.size + 1 := by have := hg5.size; simpa using this
              refine ⟨hg5.os, hg5.tape, hg5.output, by omega, fun k hk hne => ?_⟩
              rw [hg5.block k (by simp; omega) hne]
              exact Below.heap_alloc _ _ _ hk
            have hne : some mb ≠ (Value.slice pa xa.length ca).ownBlock := fun e => by have := (hav.lt mb e.symm).1; omega
            have e85 : w5.cell? ⟨mb, 8, none⟩ = some (.slice pa xa.length ca) := World.rowIs.cell (rowIs_kept hr1 hg0 hne) (by omega)
            have f85 : w5.frozen? ⟨mb, 8, none⟩ = false := World.rowIs.frozen (rowIs_kept hr1 hg0 hne) 8
            have HA : Hid (AnsX (here S w) (AT S w mb) w (w5.setCell ⟨mb, 8, none⟩ (.slice pa5 (xa.length + 1) ca5)) F Dd c r ab cap L φ mb M (xa ++ [u]) rs) := AnsX.pushA HMS.out (.inr rfl) hml ⟨_, _, _, _, _, hn1⟩ ht1 hz1 hr1 hav hrv hown5 hg0
            have hml5 : mb < w5.heap.size := World.rowIs.lt (rowIs_kept hr1 hg0 hne)
            clear hn1 ht1 hz1 hr1 hav hrv hp hown5 hg5 hg0 hnil5 hloc5 hpa hca fp2
            go_upto_region 6 with fail
            go_cut [53] (fun _ wd => AnsX (here S w) (AT S w mb) w wd F Dd c r ab cap L φ mb M (xa ++ [u]) rs)
            case first =>
              go_region_law (refine step_append_run rfl (.tmp 45) (.tmp 50) 33 33 rfl (.slice pa xa.length ca) (.slice (some ⟨wr.heap.size, 0, none⟩) 1 1) (by simp [Act.eval]) (by simp [Act.eval]) _ _ hap ?_)
              all_goals (try go_wp2_with fail)
              all_goals go_meet
              all_goals exact HA.out
            case rest =>
              clear HA e85 f85 hml5 hap e8 p0 p2 hml1 hbl HX d0
              have HX : Hid (AnsX (here S w) (AT S w mb) w wc F Dd c r ab cap L φ mb M (xa ++ [u]) rs) := hcut
              obtain ⟨⟨N1, G1, pid1, P1, K1, hn1⟩, ht1, hz1, av, rv, hr1, hav, hrv⟩ := hcut
              have hp := (hn1.peer b HB.out).1
              obtain ⟨t2, ht2, p2⟩ := hp.cu 2 (by omega) rfl
              have hbl := World.rowIs.lt hp.row
              have hml1 := World.rowIs.lt hr1
              obtain ⟨pa, ca, ea, hpa, hca⟩ := own_at (own_base hrv)
              subst ea
              have e8 : wc.cell? ⟨mb, 9, none⟩ = some (.slice pa rs.length ca) := World.rowIs.cell hr1 (by omega)
              have hrsl : rs.length ≤ 5 := by have := HXL.out; omega
              obtain ⟨v', w5, hap, hown5, hg5, hnil5, hloc5⟩ := run_append_own_at (P := Try.prog) (wc.alloc (.cells #[.int .u64 t2] 40)).drew w.heap.size 42 42 40 i4 (.int .u64 0) 1 8 Try.underlying42 hi4 hy0 hy1 hy2 rfl (by decide) (.slice pa rs.length ca) rs.length (rs.map fun z => .int .u64 z) (hrv.alloc _) ⟨wc.heap.size, 0, none⟩ 1 1 [.int .u64 t2] rfl (cell_one_new _ _ _) (by simp [Value.oneCell']) (by unfold maxLen; omega) (by omega) (by have := ht1.size; simp; omega)
              obtain ⟨pa5, ca5, ea5, -, -⟩ := own_at (own_base hown5)
              subst ea5
              have hg0 : wc.grownBy w5 (Value.slice pa rs.length ca).ownBlock := by
                have e5s : w5.heap.size ≥ wc.heap.size + 1 := by have := hg5.size; simpa using this
                refine ⟨hg5.os, hg5.tape, hg5.output, by omega, fun k hk hne => ?_⟩
                rw [hg5.block k (by simp; omega) hne]
                exact Below.heap_alloc _ _ _ hk
              have hne : some mb ≠ (Value.slice pa rs.length ca).ownBlock := fun e => by have := (hrv.lt mb e.symm).1; omega
              have e85 : w5.cell? ⟨mb, 9, none⟩ = some (.slice pa rs.length ca) := World.rowIs.cell (rowIs_kept hr1 hg0 hne) (by omega)
              have f85 : w5.frozen? ⟨mb, 9, none⟩ = false := World.rowIs.frozen (rowIs_kept hr1 hg0 hne) 9
              have HA : Hid (AnsX (here S w) (AT S w mb) w (w5.setCell ⟨mb, 9, none⟩ (.slice pa5 (rs.length + 1) ca5)) F Dd c r ab cap L φ mb M (xa ++ [u]) (rs ++ [t2])) := AnsX.pushR HMS.out (.inr rfl) hml ⟨_, _, _, _, _, hn1⟩ ht1 hz1 hr1 hav hrv ht2 hown5 hg0
              have hml5 : mb < w5.heap.size := World.rowIs.lt (rowIs_kept hr1 hg0 hne)
              clear hn1 ht1 hz1 hr1 hav hrv hp hown5 hg5 hg0 hnil5 hloc5 hpa hca
              go_upto_region 7 with fail
              go_cut [66] (fun _ wd => AnsX (here S w) (AT S w mb) w wd F Dd c r ab cap L φ mb M (xa ++ [u]) (rs ++ [t2]))
              case first =>
                go_region_law (refine step_append_run rfl (.tmp 58) (.tmp 63) 42 42 rfl (.slice pa rs.length ca) (.slice (some ⟨wc.heap.size, 0, none⟩) 1 1) (by simp [Act.eval]) (by simp [Act.eval]) _ _ hap ?_)
                all_goals (try go_wp2_with fail)
                all_goals go_meet
                all_goals exact HA.out
              case rest =>
                clear HA e85 f85 hml5 hap e8 p2 hml1 hbl HX
                have HX : Hid (AnsX (here S w) (AT S w mb) w wc F Dd c r ab cap L φ mb M (xa ++ [u]) (rs ++ [t2])) := hcut
                obtain ⟨⟨N1, G1, pid1, P1, K1, hn1⟩, ht1, hz1, av, rv, hr1, hav, hrv⟩ := hcut
                have hp := (hn1.peer b HB.out).1
                obtain ⟨t3, ht3, p2⟩ := hp.cu 2 (by omega) rfl
                have fp2 := hp.fz 2
                have hbl := World.rowIs.lt hp.row
                have HA : Hid (AnsX (here S w) (AT S w mb) w (wc.setCell ⟨b, 2, none⟩ (.int .u64 0)) F Dd c r ab cap L φ mb M (xa ++ [u]) (rs ++ [t2])) := by
                  have g2 := grownBy_setCell wc ⟨b, 2, none⟩ (.int .u64 0)
                  have hSb := hn1.inS.2.2.1 b HB.out
                  have hbn : b ≠ mb := (HMS.out b hSb).2
                  refine ⟨⟨_, _, _, _, _, hn1.setL HB.out 2 _ (by simp) (Ty.mku _ (Int.le_refl _))⟩, Touch.setCell ht1 (.inl (.inl ⟨hSb.1, by rw [HTB.out.1 b HB.out]; decide⟩)) _, hz1, av, rv, rowIs_kept hr1 g2 (fun e => hbn (Option.some.inj e).symm), ?_, ?_⟩
                  · cases hv : av.ownBlock with
                    | none => exact hav.kept g2 (.inl hv)
                    | some g => exact hav.kept g2 (.inr (fun e => by rw [hv] at e; cases e; have := (hav.lt _ hv).1; have := hSb.2; simp at *; omega))
                  · cases hv : rv.ownBlock with
                    | none => exact hrv.kept g2 (.inl hv)
                    | some g => exact hrv.kept g2 (.inr (fun e => by rw [hv] at e; cases e; have := (hrv.lt _ hv).1; have := hSb.2; simp at *; omega))
                clear hn1 ht1 hz1 hr1 hav hrv hp
                go_wp2_with fail
                go_roundw
                case rel => exact ⟨j + 1, by omega, by go_num, xa ++ [u], rs ++ [t2], by have := HXL.out; simp; omega, by simp; omega, HA.out⟩
                case measure => simp [intOf]; omega
        · obtain ⟨⟨N1, G1, pid1, P1, K1, hn1⟩, ht1, hz1, av, rv, hr1, hav, hrv⟩ := hx
          have f7 := hn1.fz 7
          obtain ⟨a7, e7, -, -⟩ := hn1.n7
          have c7 : wr.cell? ⟨F.nb, 7, none⟩ = some (.int .i64 a7) := by rw [← e7]; exact World.rowIs.cell hn1.nrow (by omega)
          have hnl1 := World.rowIs.lt hn1.nrow
          have HA : Hid (AnsX (here S w) (AT S w mb) w (wr.setCell ⟨F.nb, 7, none⟩ (.int .i64 0)) F Dd c r ab cap L φ mb M xa rs) := by
            have g2 := grownBy_setCell wr ⟨F.nb, 7, none⟩ (.int .i64 0)
            have hSb := hn1.inS.1
            have hbn : F.nb ≠ mb := (HMS.out F.nb hSb).2
            refine ⟨⟨_, _, _, _, _, hn1.setA 0 (Int.le_refl _) (by omega)⟩, Touch.setCell ht1 (.inl (.inl ⟨hSb.1, by rw [HTB.out.2]; decide⟩)) _, hz1, av, rv, rowIs_kept hr1 g2 (fun e => hbn (Option.some.inj e).symm), ?_, ?_⟩
            · cases hv : av.ownBlock with
              | none => exact hav.kept g2 (.inl hv)
              | some g => exact hav.kept g2 (.inr (fun e => by rw [hv] at e; cases e; have := (hav.lt _ hv).1; have := hSb.2; simp at *; omega))
            · cases hv : rv.ownBlock with
              | none => exact hrv.kept g2 (.inl hv)
              | some g => exact hrv.kept g2 (.inr (fun e => by rw [hv] at e; cases e; have := (hrv.lt _ hv).1; have := hSb.2; simp at *; omega))
          clear hn1 ht1 hz1 hr1 hav hrv
          go_wp2_with fail
          refine bodyPost_ret (results_none rfl _ _ _) rfl ?_
          exact ⟨rfl, xa, rs, HXL.out, by omega, hwin.out _ _ _ HA.out⟩
end Go.Proofs.Qxb6002353a
