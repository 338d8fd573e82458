import Derived.Test.Qxb6002353aSmall
namespace Go.Proofs.Qxb6002353a
open Go.RowKit Go.Maps

/-- some int comes back; the world is as it was, but for draws -/
def I64 (w : World) (e : Ending) (w' : World) : Prop := ∃ (z : Int) (q : Nat), e = .returned (.int .i64 z) ∧ w' = w.drewN q

set_option maxHeartbeats 1000000 in
theorem alpha_any {S : Nat → Prop} {w : World} {F : Fx} {Dd : UInt8 → Prop} {c : Nat} {r : Int} {ab cap : Nat} {L : List Nat} {φ : Nat → UInt8 → Value → Value → Value → Prop} (h : NodeOK S w F Dd c r ab cap L φ) :
    Calls Try.prog 31 #[.pointer (some ⟨F.nb, 0, none⟩)] w (I64 w) := by
  obtain ⟨N, G, pid, P, K, h⟩ := h
  obtain ⟨z1, c1⟩ := h.ci 1 (by omega) rfl
  obtain ⟨z2, c2⟩ := h.ci 2 (by omega) rfl
  obtain ⟨z6, c6⟩ := h.ci 6 (by omega) rfl
  clear h
  by_cases t : 0 < z2
  · go_enter Try.func31, Try.ntmps31
    go_wp2
    go_ret
    exact ⟨_, 0, rfl, rfl⟩
  · go_enter Try.func31, Try.ntmps31
    go_wp2
    go_quiet (fail)
    all_goals go_wp2
    all_goals
      go_ret
      exact ⟨_, _, rfl, rfl⟩

set_option maxHeartbeats 1000000 in
theorem ifMissed_any {S : Nat → Prop} {w : World} {F : Fx} {Dd : UInt8 → Prop} {c : Nat} {r : Int} {ab cap : Nat} {L : List Nat} {φ : Nat → UInt8 → Value → Value → Value → Prop} (h : NodeOK S w F Dd c r ab cap L φ) :
    Calls Try.prog 70 #[.pointer (some ⟨F.nb, 0, none⟩)] w (U64 w) := by
  obtain ⟨N, G, pid, P, K, h⟩ := h
  obtain ⟨z16, n16, c16⟩ := h.cu 16 (by omega) rfl
  clear h
  go_enter Try.func70, Try.ntmps70
  go_wp2_with (go_at_call 46; refine (wait_any _ _ _).mono ?_; rintro e w' ⟨z, q, hz, rfl, rfl⟩)
  go_ret
  exact ⟨z, _, hz, rfl, rfl⟩

theorem zero66 (w : World) : (zeroValue 66).run Try.prog w = .ok (.agg #[.int .u64 0, .bool false]) w := by kernel_rfl
theorem zero74 (w : World) : (zeroValue 74).run Try.prog w = .ok (.pointer none) w := by kernel_rfl

theorem field66 (t : Int) (b : Bool) (w : World) : (Instr.field 66 (.agg #[.int .u64 t, .bool b]) 1).run Try.prog w = .ok (.bool b) w := by kernel_rfl

/-- a look-up in the pairs: nothing is there, or a suspicion of one that is gone -/
theorem PairsMap.look {w : World} {qm : Nat} {Dd K : UInt8 → Prop} (h : PairsMap w qm Dd K) (u : UInt8) : ∃ (t : Int) (b : Bool), (∀ q : Nat, (Instr.lookup 61 (.map (some qm)) (.string (idb u)) false).run Try.prog (w.drewN q) = .ok (.agg #[.int .u64 t, .bool b]) (w.drewN q)) ∧
    (Lit.int .u64 t).wf = true ∧ (b = true → Dd u ∧ K u) ∧ (b = false → t = 0 ∧ ¬ K u) := by
  obtain ⟨D, hown, h1, h2⟩ := h
  have hq : ∀ q : Nat, (w.drewN q).ownsMap Try.prog 9 RV qm 5 D := fun q => hown
  have hl : ∀ q : Nat, ∃ v, (Instr.lookup 61 (.map (some qm)) (.string (idb u)) false).run Try.prog (w.drewN q) = .ok v (w.drewN q) ∧ D.atKey (.string [u]) (.held (.agg #[.int .u64 0, .bool false])) = .held v := by
    intro q
    obtain ⟨v, ps, hr, hv⟩ := (hq q).lookup law9 Try.underlying61 (zero66 _) (RV_mk _) (key_idb u)
    refine ⟨v, hr, ?_⟩
    simp only [RV, Option.some.injEq, Prod.mk.injEq] at hv
    exact hv.1.symm
  cases hh : Maps.has D (.string [u]) with
  | false =>
    refine ⟨0, false, fun q => ?_, rfl, (fun e => by cases e), fun _ => ⟨rfl, fun hk => by rw [h2 u hk] at hh; cases hh⟩⟩
    obtain ⟨v, hr, hv⟩ := hl q
    rw [atKey_of_not_has hh] at hv
    simp only [DataW.held.injEq] at hv
    rw [← hv] at hr
    exact hr
  | true =>
    obtain ⟨u', t, e, hd, hk, hw, hat⟩ := h1 [u] hh
    simp only [List.cons.injEq, and_true] at e
    subst e
    refine ⟨t, true, fun q => ?_, hw, fun _ => ⟨hd, hk⟩, (fun e => by cases e)⟩
    obtain ⟨v, hr, hv⟩ := hl q
    rw [hat] at hv
    simp only [DataW.held.injEq] at hv
    rw [← hv] at hr
    exact hr

/-- two uint64s come back; the world is as it was, but for draws -/
def U64s (w : World) (e : Ending) (w' : World) : Prop := ∃ (y z : Int) (q : Nat), 0 ≤ y ∧ 0 ≤ z ∧ e = .returned (.tuple #[.int .u64 y, .int .u64 z]) ∧ w' = w.drewN q

set_option maxHeartbeats 1000000 in
theorem heard_any {S : Nat → Prop} {w : World} {F : Fx} {Dd : UInt8 → Prop} {c : Nat} {r : Int} {ab cap : Nat} {L : List Nat} {φ : Nat → UInt8 → Value → Value → Value → Prop} (h : NodeOK S w F Dd c r ab cap L φ) :
    Calls Try.prog 47 #[.pointer (some ⟨F.nb, 0, none⟩)] w (U64s w) := by
  obtain ⟨N, G, pid, P, K, h⟩ := h
  have c5 : w.cell? ⟨F.nb, 5, none⟩ = some (.slice (some ⟨ab, 0, none⟩) L.length cap) := by rw [← h.n5]; exact World.rowIs.cell h.nrow (by omega)
  have c8 : w.cell? ⟨F.nb, 8, none⟩ = some (.map (some F.qm)) := by rw [← h.n8]; exact World.rowIs.cell h.nrow (by omega)
  have hl5 := h.l5
  have HH : Hid (NodeIs S w F Dd c r ab cap L φ N G pid P K) := h
  clear h
  have hfd := field66
  go_enter Try.func47, Try.ntmps47
  go_wp2
  go_loopw [2, 3, 11] (fun a b i wr => ∃ (y z : Int) (q j : Nat), 0 ≤ y ∧ 0 ≤ z ∧ j ≤ L.length ∧ a = .int .u64 y ∧ b = .int .u64 z ∧ i = .int .i64 j ∧ wr = w.drewN q) (fun _ _ i _ => L.length - (intOf i).toNat)
  case atStart => exact ⟨0, 0, 0, 0, by omega, by omega, by omega, rfl, rfl, rfl, rfl⟩
  case round =>
    obtain ⟨y, z, q, j, hy, hz, hj, rfl, rfl, rfl, rfl⟩ := hrel
    by_cases hlt : j < L.length
    · have hb : L[j] ∈ L := List.getElem_mem hlt
      have hp := (HH.out.peer _ hb).1
      obtain ⟨z10, n10, d10⟩ := hp.cu 10 (by omega) rfl
      obtain ⟨b11, d11⟩ := hp.cb 11 (by omega) rfl
      have d0 : w.cell? ⟨L[j], 0, none⟩ = some (.string (idb (pid L[j]))) := by rw [← hp.p0]; exact World.rowIs.cell hp.row (by omega)
      have e0 : w.cell? ⟨ab, j, none⟩ = some (.pointer (some ⟨L[j], 0, none⟩)) := by
        rw [← HH.out.bptr j hlt]; exact World.rowIs.cell HH.out.brow (by have := HH.out.bcap; omega)
      obtain ⟨t, bb, hlk, hx⟩ := HH.out.qmap.look (pid L[j])
      clear hp hb hx
      generalize L[j] = b at d10 d11 d0 e0 hlk
      generalize pid b = u at d0 hlk
      by_cases t0 : (z10 == 0) = true
      · go_wp2
        go_quiet (fail)
        go_wp2
        go_roundw
        case rel => refine ⟨_, _, _, j + 1, ?_, ?_, by omega, rfl, rfl, by go_num, rfl⟩ <;> first | assumption | omega
        case measure => simp [intOf]; omega
      · have t1 : (z10 == 0) = false := by simpa using t0
        clear t0
        cases bb
        · cases b11
          all_goals
            go_wp2
            go_quiet (fail)
            go_wp2
          all_goals
            go_roundw
            case rel => refine ⟨_, _, _, j + 1, ?_, ?_, by omega, rfl, rfl, by go_num, rfl⟩ <;> first | assumption | omega
            case measure => simp [intOf]; omega
        · go_wp2
          go_quiet (fail)
          go_wp2
          go_roundw
          case rel => refine ⟨_, _, _, j + 1, ?_, ?_, by omega, rfl, rfl, by go_num, rfl⟩ <;> first | assumption | omega
          case measure => simp [intOf]; omega
    · go_wp2
      go_ret2
      exact ⟨_, _, q, hy, hz, rfl, rfl⟩

theorem NodeOK.drewN {S : Nat → Prop} {w : World} {F : Fx} {Dd : UInt8 → Prop} {c : Nat} {r : Int} {ab cap : Nat} {L : List Nat} {φ : Nat → UInt8 → Value → Value → Value → Prop} (h : NodeOK S w F Dd c r ab cap L φ) (q : Nat) : NodeOK S (w.drewN q) F Dd c r ab cap L φ := by
  obtain ⟨N, G, pid, P, K, h⟩ := h
  exact ⟨N, G, pid, P, K, h.drewN q⟩

set_option maxHeartbeats 1000000 in
theorem waitFor_any {S : Nat → Prop} {w : World} {F : Fx} {Dd : UInt8 → Prop} {c : Nat} {r : Int} {ab cap : Nat} {L : List Nat} {φ : Nat → UInt8 → Value → Value → Value → Prop} (h : NodeOK S w F Dd c r ab cap L φ) :
    Calls Try.prog 48 #[.pointer (some ⟨F.nb, 0, none⟩)] w (U64 w) := by
  have HH : Hid (NodeOK S w F Dd c r ab cap L φ) := h
  obtain ⟨N, G, pid, P, K, h⟩ := h
  obtain ⟨z19, n19, c19⟩ := h.cu 19 (by omega) rfl
  obtain ⟨z23, n23, c23⟩ := h.cu 23 (by omega) rfl
  clear h
  go_enter Try.func48, Try.ntmps48
  go_wp2_with (first
    | (go_at_call 47; refine (heard_any HH.out).mono ?_; rintro e w' ⟨y, z, q, hy, hz, rfl, rfl⟩)
    | (go_at_call 70; refine (ifMissed_any (HH.out.drewN _)).mono ?_; rintro e w' ⟨z2, q2, hz2, rfl, rfl⟩))
  all_goals
    go_ret
    exact ⟨_, _, by assumption, rfl, rfl⟩
end Go.Proofs.Qxb6002353a
