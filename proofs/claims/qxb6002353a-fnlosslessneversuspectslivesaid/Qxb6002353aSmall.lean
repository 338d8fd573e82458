import Derived.Test.Qxb6002353aNode
import Derived.BigQuiet
import Derived.BigRegion
import Derived.RegionTactic
import Derived.Deep.QuietTactic
namespace Go.Proofs.Qxb6002353a
open Go.RowKit Go.Maps

section
variable {S : Nat → Prop} {w : World} {F : Fx} {Dd K : UInt8 → Prop} {c : Nat} {r : Int} {ab cap : Nat} {L : List Nat} {φ : Nat → UInt8 → Value → Value → Value → Prop} {N G : Nat → Value} {pid : Nat → UInt8} {P : Nat → Nat → Value}

/-- a node's cell, by its kind -/
theorem NodeIs.cu (h : NodeIs S w F Dd c r ab cap L φ N G pid P K) (i : Nat) (hi : i < 24) (hk : kN i = 1) : ∃ z, 0 ≤ z ∧ w.cell? ⟨F.nb, i, none⟩ = some (.int .u64 z) := by
  obtain ⟨z, hz, hp⟩ := Ty.u (hk ▸ h.nty i hi); exact ⟨z, hp, by rw [← hz]; exact World.rowIs.cell h.nrow hi⟩
theorem NodeIs.ci (h : NodeIs S w F Dd c r ab cap L φ N G pid P K) (i : Nat) (hi : i < 24) (hk : kN i = 2) : ∃ z, w.cell? ⟨F.nb, i, none⟩ = some (.int .i64 z) := by
  obtain ⟨z, hz⟩ := Ty.i (hk ▸ h.nty i hi); exact ⟨z, by rw [← hz]; exact World.rowIs.cell h.nrow hi⟩
theorem NodeIs.cb (h : NodeIs S w F Dd c r ab cap L φ N G pid P K) (i : Nat) (hi : i < 24) (hk : kN i = 3) : ∃ z, w.cell? ⟨F.nb, i, none⟩ = some (.bool z) := by
  obtain ⟨z, hz⟩ := Ty.b (hk ▸ h.nty i hi); exact ⟨z, by rw [← hz]; exact World.rowIs.cell h.nrow hi⟩
theorem NodeIs.fz (h : NodeIs S w F Dd c r ab cap L φ N G pid P K) (i : Nat) : w.frozen? ⟨F.nb, i, none⟩ = false := World.rowIs.frozen h.nrow i

theorem PeerIs.cu {b : Nat} {u : UInt8} {Pb : Nat → Value} (h : PeerIs w b u Pb) (i : Nat) (hi : i < 15) (hk : kP i = 1) : ∃ z, 0 ≤ z ∧ w.cell? ⟨b, i, none⟩ = some (.int .u64 z) := by
  obtain ⟨z, hz, hp⟩ := Ty.u (hk ▸ h.ty i hi); exact ⟨z, hp, by rw [← hz]; exact World.rowIs.cell h.row hi⟩
theorem PeerIs.cb {b : Nat} {u : UInt8} {Pb : Nat → Value} (h : PeerIs w b u Pb) (i : Nat) (hi : i < 15) (hk : kP i = 3) : ∃ z, w.cell? ⟨b, i, none⟩ = some (.bool z) := by
  obtain ⟨z, hz⟩ := Ty.b (hk ▸ h.ty i hi); exact ⟨z, by rw [← hz]; exact World.rowIs.cell h.row hi⟩
theorem PeerIs.fz {b : Nat} {u : UInt8} {Pb : Nat → Value} (h : PeerIs w b u Pb) (i : Nat) : w.frozen? ⟨b, i, none⟩ = false := World.rowIs.frozen h.row i
theorem NodeIs.bn (h : NodeIs S w F Dd c r ab cap L φ N G pid P K) {b : Nat} (hb : b ∈ L) : b ≠ F.nb := by
  intro e
  have h1 := tag_row (h.peer b hb).1.row
  have h2 := tag_row h.nrow
  rw [e] at h1
  rw [h1] at h2
  cases h2

/-- a peer's plain cell that no word of the peers speaks of is written -/
theorem NodeIs.setL (h : NodeIs S w F Dd c r ab cap L φ N G pid P K) {b : Nat} (hb : b ∈ L) (i : Nat) (v : Value) (hi : i ∈ [1, 2, 5, 6, 7, 8, 10, 11, 12, 13, 14]) (hv : Ty (kP i) v) :
    NodeIs S (w.setCell ⟨b, i, none⟩ v) F Dd c r ab cap L φ N G pid (fun b' => if b' = b then put (P b) i v else P b') K := by
  have hne : ∀ j, j ∈ [0, 3, 4, 9] → j ≠ i := by
    intro j hj e
    subst e
    revert hi hj
    simp only [List.mem_cons, List.not_mem_nil, or_false]
    omega
  refine h.setQ b hb (grownBy_setCell w ⟨b, i, none⟩ v) ((h.peer b hb).1.set i v (hne 0 (by simp)).symm hv) ?_ (fun _ _ _ h => h)
  rw [put_other _ _ _ _ (hne 3 (by simp)), put_other _ _ _ _ (hne 4 (by simp)), put_other _ _ _ _ (hne 9 (by simp))]
  exact (h.peer b hb).2.2
end

/-- the node as it stands in w', and what has been touched since w -/
def NT (S : Nat → Prop) (w w' : World) (F : Fx) (Dd : UInt8 → Prop) (c : Nat) (r : Int) (ab cap : Nat) (L : List Nat) (φ : Nat → UInt8 → Value → Value → Value → Prop) : Prop :=
  NodeOK S w' F Dd c r ab cap L φ ∧ Touch S w w'

section
variable {S : Nat → Prop} {w w' : World} {F : Fx} {Dd : UInt8 → Prop} {c : Nat} {r : Int} {ab cap : Nat} {L : List Nat} {φ : Nat → UInt8 → Value → Value → Value → Prop}
theorem NT.setP (h : NT S w w' F Dd c r ab cap L φ) (i : Nat) (v : Value) (hi : i ∈ [1, 2, 6, 10, 13, 14, 15, 16, 17, 18, 19, 20, 21, 22, 23]) (hv : Ty (kN i) v) : NT S w (w'.setCell ⟨F.nb, i, none⟩ v) F Dd c r ab cap L φ := by
  obtain ⟨⟨N, G, pid, P, K, h⟩, ht⟩ := h
  exact ⟨⟨_, _, _, _, _, h.setP i v hi hv⟩, ht.setCell (.inl h.inS.1) v⟩
theorem NT.setL (h : NT S w w' F Dd c r ab cap L φ) {b : Nat} (hb : b ∈ L) (i : Nat) (v : Value) (hi : i ∈ [1, 2, 5, 6, 7, 8, 10, 11, 12, 13, 14]) (hv : Ty (kP i) v) : NT S w (w'.setCell ⟨b, i, none⟩ v) F Dd c r ab cap L φ := by
  obtain ⟨⟨N, G, pid, P, K, h⟩, ht⟩ := h
  exact ⟨⟨_, _, _, _, _, h.setL hb i v hi hv⟩, ht.setCell (.inl (h.inS.2.2.1 b hb)) v⟩
theorem NT.drewN (h : NT S w w' F Dd c r ab cap L φ) (q : Nat) : NT S w (w'.drewN q) F Dd c r ab cap L φ := by
  obtain ⟨⟨N, G, pid, P, K, h⟩, ht⟩ := h
  exact ⟨⟨_, _, _, _, _, h.drewN q⟩, ht.drewN q⟩
theorem NT.drew (h : NT S w w' F Dd c r ab cap L φ) : NT S w w'.drew F Dd c r ab cap L φ := h.drewN 1
theorem NT.alloc (h : NT S w w' F Dd c r ab cap L φ) (o : Obj) : NT S w (w'.alloc o) F Dd c r ab cap L φ := by
  obtain ⟨⟨N, G, pid, P, K, h⟩, ht⟩ := h
  exact ⟨⟨_, _, _, _, _, h.alloc o⟩, ht.alloc o⟩
theorem NT.start (h : NodeOK S w F Dd c r ab cap L φ) : NT S w w F Dd c r ab cap L φ := ⟨h, Touch.refl _ _⟩
end

/-- what a small step on a node leaves -/
def Kept (S : Nat → Prop) (w : World) (F : Fx) (Dd : UInt8 → Prop) (c : Nat) (r : Int) (ab cap : Nat) (L : List Nat) (φ : Nat → UInt8 → Value → Value → Value → Prop) (e : Ending) (w' : World) : Prop :=
  e = .returned (.tuple #[]) ∧ NT S w w' F Dd c r ab cap L φ

set_option maxHeartbeats 1000000 in
theorem count_any {S : Nat → Prop} {w : World} {F : Fx} {Dd : UInt8 → Prop} {c : Nat} {r : Int} {ab cap : Nat} {L : List Nat} {φ : Nat → UInt8 → Value → Value → Value → Prop} (h : NodeOK S w F Dd c r ab cap L φ) {b : Nat} (hb : b ∈ L) :
    Calls Try.prog 45 #[.pointer (some ⟨F.nb, 0, none⟩), .pointer (some ⟨b, 0, none⟩)] w (Kept S w F Dd c r ab cap L φ) := by
  have HH : Hid (NT S w w F Dd c r ab cap L φ) := NT.start h
  obtain ⟨N, G, pid, P, K, h⟩ := h
  have hne := h.bn hb
  have hp := (h.peer b hb).1
  obtain ⟨z16, n16, c16⟩ := h.cu 16 (by omega) rfl
  obtain ⟨z17, n17, c17⟩ := h.cu 17 (by omega) rfl
  have f16 := h.fz 16
  have f17 := h.fz 17
  obtain ⟨b7, d7⟩ := hp.cb 7 (by omega) rfl
  obtain ⟨b13, d13⟩ := hp.cb 13 (by omega) rfl
  obtain ⟨b14, d14⟩ := hp.cb 14 (by omega) rfl
  obtain ⟨z12, n12, d12⟩ := hp.cu 12 (by omega) rfl
  have g13 := hp.fz 13
  have g14 := hp.fz 14
  have g12 := hp.fz 12
  clear h hp
  rcases b7 with _ | _
  · cases b13 <;> cases b14
    all_goals
      go_enter Try.func45, Try.ntmps45
      go_wp2
      first | refine bodyPost_ret (results_none rfl _ _ _) rfl ?_ | go_end0
      refine ⟨rfl, ?_⟩
      show NT S w _ F Dd c r ab cap L φ
      repeat (first | exact HH.out | refine NT.setP ?_ _ _ (by simp) (by first | exact Ty.mku _ (by first | assumption | exact wrap_nn _ | omega) | exact Ty.mkb _ | exact Ty.mki _) | refine NT.setL ?_ hb _ _ (by simp) (by first | exact Ty.mku _ (by first | assumption | exact wrap_nn _ | omega) | exact Ty.mkb _ | exact Ty.mki _))
  · go_enter Try.func45, Try.ntmps45
    go_wp2
    first | refine bodyPost_ret (results_none rfl _ _ _) rfl ?_ | go_end0
    refine ⟨rfl, ?_⟩
    show NT S w _ F Dd c r ab cap L φ
    repeat (first | exact HH.out | refine NT.setP ?_ _ _ (by simp) (by first | exact Ty.mku _ (by first | assumption | exact wrap_nn _ | omega) | exact Ty.mkb _ | exact Ty.mki _) | refine NT.setL ?_ hb _ _ (by simp) (by first | exact Ty.mku _ (by first | assumption | exact wrap_nn _ | omega) | exact Ty.mkb _ | exact Ty.mki _))

set_option maxHeartbeats 1000000 in
theorem again_any {S : Nat → Prop} {w : World} {F : Fx} {Dd : UInt8 → Prop} {c : Nat} {r : Int} {ab cap : Nat} {L : List Nat} {φ : Nat → UInt8 → Value → Value → Value → Prop} (h : NodeOK S w F Dd c r ab cap L φ) {b : Nat} (hb : b ∈ L) :
    Calls Try.prog 36 #[.pointer (some ⟨F.nb, 0, none⟩), .pointer (some ⟨b, 0, none⟩)] w (Kept S w F Dd c r ab cap L φ) := by
  have HH : Hid (NT S w w F Dd c r ab cap L φ) := NT.start h
  obtain ⟨N, G, pid, P, K, h⟩ := h
  have hp := (h.peer b hb).1
  obtain ⟨b5, d5⟩ := hp.cb 5 (by omega) rfl
  obtain ⟨z12, n12, d12⟩ := hp.cu 12 (by omega) rfl
  have g5 := hp.fz 5
  have g12 := hp.fz 12
  clear h hp
  go_enter Try.func36, Try.ntmps36
  go_wp2
  go_end0
  refine ⟨rfl, ?_⟩
  show NT S w _ F Dd c r ab cap L φ
  repeat (first | exact HH.out | refine NT.setP ?_ _ _ (by simp) (by first | exact Ty.mku _ (by first | assumption | exact wrap_nn _ | omega) | exact Ty.mkb _ | exact Ty.mki _) | refine NT.setL ?_ hb _ _ (by simp) (by first | exact Ty.mku _ (by first | assumption | exact wrap_nn _ | omega) | exact Ty.mkb _ | exact Ty.mki _))

set_option maxHeartbeats 1000000 in
theorem confirm_any {S : Nat → Prop} {w : World} {F : Fx} {Dd : UInt8 → Prop} {c : Nat} {r : Int} {ab cap : Nat} {L : List Nat} {φ : Nat → UInt8 → Value → Value → Value → Prop} (h : NodeOK S w F Dd c r ab cap L φ) {b : Nat} (hb : b ∈ L) (ans : Bool) :
    Calls Try.prog 40 #[.pointer (some ⟨F.nb, 0, none⟩), .pointer (some ⟨b, 0, none⟩), .bool ans] w (Kept S w F Dd c r ab cap L φ) := by
  have HH : Hid (NT S w w F Dd c r ab cap L φ) := NT.start h
  obtain ⟨N, G, pid, P, K, h⟩ := h
  have hne := h.bn hb
  have hp := (h.peer b hb).1
  obtain ⟨z18, n18, c18⟩ := h.cu 18 (by omega) rfl
  obtain ⟨z19, n19, c19⟩ := h.cu 19 (by omega) rfl
  obtain ⟨b20, c20⟩ := h.cb 20 (by omega) rfl
  obtain ⟨b21, c21⟩ := h.cb 21 (by omega) rfl
  have f18 := h.fz 18
  have f20 := h.fz 20
  have f21 := h.fz 21
  obtain ⟨b13, d13⟩ := hp.cb 13 (by omega) rfl
  obtain ⟨z12, n12, d12⟩ := hp.cu 12 (by omega) rfl
  have g12 := hp.fz 12
  clear h hp
  by_cases t0 : (z12 == 0) = true
  · go_enter Try.func40, Try.ntmps40
    go_wp2
    refine bodyPost_ret (results_none rfl _ _ _) rfl ?_
    exact ⟨rfl, HH.out⟩
  have t1 : (z12 == 0) = false := by simpa using t0
  clear t0
  by_cases t2 : ans = false ∧ b13 = false
  · obtain ⟨rfl, rfl⟩ := t2
    go_enter Try.func40, Try.ntmps40
    go_wp2
    refine bodyPost_ret (results_none rfl _ _ _) rfl ?_
    exact ⟨rfl, HH.out⟩
  · have t3 : ans = true ∨ (ans = false ∧ b13 = true) := by cases ans <;> cases b13 <;> simp_all
    clear t2
    rcases t3 with rfl | ⟨rfl, rfl⟩
    all_goals
      go_enter Try.func40, Try.ntmps40
      go_wp2
      go_region
      all_goals
        cases b20
        all_goals go_wp2
        all_goals
          first | refine bodyPost_ret (results_none rfl _ _ _) rfl ?_ | go_end0
          refine ⟨rfl, ?_⟩
          show NT S w _ F Dd c r ab cap L φ
          repeat (first | exact HH.out | refine NT.drew ?_ | refine NT.drewN ?_ _ | refine NT.setP ?_ _ _ (by simp) (by first | exact Ty.mku _ (by first | assumption | exact wrap_nn _ | omega) | exact Ty.mkb _ | exact Ty.mki _) | refine NT.setL ?_ hb _ _ (by simp) (by first | exact Ty.mku _ (by first | assumption | exact wrap_nn _ | omega) | exact Ty.mkb _ | exact Ty.mki _))
end Go.Proofs.Qxb6002353a
