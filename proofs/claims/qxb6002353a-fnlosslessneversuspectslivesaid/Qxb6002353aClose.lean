import Derived.Test.Qxb6002353aSet
namespace Go.Proofs.Qxb6002353a
open Go.RowKit Go.Maps

/-- the node as it stands in w', its blocks those that it had in w and those made since; and what has been touched since w -/
def NG (S : Nat → Prop) (w w' : World) (F : Fx) (Dd : UInt8 → Prop) (c : Nat) (r : Int) (ab cap : Nat) (L : List Nat) (φ : Nat → UInt8 → Value → Value → Value → Prop) : Prop :=
  NodeOK (grow S w w') w' F Dd c r ab cap L φ ∧ Touch S w w'

section
variable {S : Nat → Prop} {w w1 w1' w2 : World} {F : Fx} {Dd : UInt8 → Prop} {c c' : Nat} {r r' : Int} {ab ab' cap cap' : Nat} {L L' : List Nat} {φ φ' : Nat → UInt8 → Value → Value → Value → Prop}

theorem NodeOK.monoS {S S' : Nat → Prop} (h : NodeOK S w F Dd c r ab cap L φ) (hS : ∀ i, S i → S' i) : NodeOK S' w F Dd c r ab cap L φ := by
  obtain ⟨N, G, pid, P, K, h⟩ := h
  exact ⟨N, G, pid, P, K, h.mono hS (fun _ e => e) h.dnm (Nat.le_refl _) (fun _ _ e => e)⟩
theorem NodeOK.monoC (h : NodeOK S w F Dd c r ab cap L φ) (hc : c ≤ c') : NodeOK S w F Dd c' r ab cap L φ := by
  obtain ⟨N, G, pid, P, K, h⟩ := h
  exact ⟨N, G, pid, P, K, h.mono (fun _ e => e) (fun _ e => e) h.dnm hc (fun _ _ e => e)⟩
theorem NodeOK.alloc (h : NodeOK S w F Dd c r ab cap L φ) (o : Obj) : NodeOK S (w.alloc o) F Dd c r ab cap L φ := by
  obtain ⟨N, G, pid, P, K, h⟩ := h
  exact ⟨N, G, pid, P, K, h.alloc o⟩
theorem NodeOK.below (h : NodeOK S w F Dd c r ab cap L φ) (hb : Below w.heap.size w w1) : NodeOK S w1 F Dd c r ab cap L φ := by
  obtain ⟨N, G, pid, P, K, h⟩ := h
  exact ⟨N, G, pid, P, K, h.below hb⟩

theorem NG.start (h : NodeOK S w F Dd c r ab cap L φ) : NG S w w F Dd c r ab cap L φ := ⟨h.monoS fun _ e => .inl e, Touch.refl _ _⟩
theorem NG.ofNT (h : NT S w w1 F Dd c r ab cap L φ) : NG S w w1 F Dd c r ab cap L φ := ⟨h.1.monoS fun _ e => .inl e, h.2⟩
theorem NG.alloc (h : NG S w w1 F Dd c r ab cap L φ) (o : Obj) : NG S w (w1.alloc o) F Dd c r ab cap L φ :=
  ⟨(h.1.alloc o).monoS fun _ e => grow_mono (by simp) e, h.2.alloc o⟩
theorem NG.drewN (h : NG S w w1 F Dd c r ab cap L φ) (q : Nat) : NG S w (w1.drewN q) F Dd c r ab cap L φ := ⟨h.1.drewN q, h.2.drewN q⟩
theorem NG.monoC (h : NG S w w1 F Dd c r ab cap L φ) (hc : c ≤ c') : NG S w w1 F Dd c' r ab cap L φ := ⟨h.1.monoC hc, h.2⟩
theorem NG.below (h : NG S w w1 F Dd c r ab cap L φ) (hb : Below w1.heap.size w1 w2) : NG S w w2 F Dd c r ab cap L φ :=
  ⟨(h.1.below hb).monoS fun _ e => grow_mono hb.size e, h.2.below hb⟩
/-- one step behind another -/
theorem NG.next (h : NG S w w1 F Dd c r ab cap L φ) (k : NG (grow S w w1) w1 w2 F Dd c' r' ab' cap' L' φ') : NG S w w2 F Dd c' r' ab' cap' L' φ' :=
  ⟨k.1.monoS fun _ e => grow_trans h.2.size k.2.size e, h.2.trans k.2⟩
end

/-- a look-up in the pairs that asks whether the key is there -/
theorem PairsMap.lookok {w : World} {qm : Nat} {Dd K : UInt8 → Prop} (h : PairsMap w qm Dd K) (u : UInt8) : ∃ (t : Int) (b : Bool), (∀ W : World, W.heap[qm]? = w.heap[qm]? → (Instr.lookup 61 (.map (some qm)) (.string (idb u)) true).run Try.prog W = .ok (.tuple #[.agg #[.int .u64 t, .bool b], .bool b]) W) ∧
    (Lit.int .u64 t).wf = true ∧ (b = true → Dd u ∧ K u) ∧ (b = false → t = 0 ∧ ¬ K u) := by
  obtain ⟨D, hown, h1, h2⟩ := h
  have hW : ∀ W : World, W.heap[qm]? = w.heap[qm]? → W.ownsMap Try.prog 9 RV qm 5 D := fun W e => by
    obtain ⟨es, cl, hb, hr⟩ := hown
    exact ⟨es, cl, e.trans hb, hr⟩
  have hl : ∀ W : World, W.heap[qm]? = w.heap[qm]? → ∃ v, (Instr.lookup 61 (.map (some qm)) (.string (idb u)) true).run Try.prog W = .ok (.tuple #[v, .bool (Maps.has D (.string [u]))]) W ∧ D.atKey (.string [u]) (.held (.agg #[.int .u64 0, .bool false])) = .held v := by
    intro W e
    obtain ⟨v, ps, hr, hv⟩ := (hW W e).look_ok law9 Try.underlying61 (zero66 _) (RV_mk _) (key_idb u)
    refine ⟨v, hr, ?_⟩
    simp only [RV, Option.some.injEq, Prod.mk.injEq] at hv
    exact hv.1.symm
  cases hh : Maps.has D (.string [u]) with
  | false =>
    refine ⟨0, false, fun W e => ?_, rfl, (fun e => by cases e), fun _ => ⟨rfl, fun hk => by rw [h2 u hk] at hh; cases hh⟩⟩
    obtain ⟨v, hr, hv⟩ := hl W e
    rw [atKey_of_not_has hh] at hv
    simp only [DataW.held.injEq] at hv
    rw [← hv, hh] at hr
    exact hr
  | true =>
    obtain ⟨u', t, e, hd, hk, hw, hat⟩ := h1 [u] hh
    simp only [List.cons.injEq, and_true] at e
    subst e
    refine ⟨t, true, fun W e => ?_, hw, fun _ => ⟨hd, hk⟩, (fun e => by cases e)⟩
    obtain ⟨v, hr, hv⟩ := hl W e
    rw [hat] at hv
    simp only [DataW.held.injEq] at hv
    rw [← hv, hh] at hr
    exact hr

theorem hide0 {p : Prop} (h : p) : Hid p := h

/-- two peers of one name are one -/
theorem NodeIs.pid_inj {S : Nat → Prop} {w : World} {F : Fx} {Dd K : UInt8 → Prop} {c : Nat} {r : Int} {ab cap : Nat} {L : List Nat} {φ : Nat → UInt8 → Value → Value → Value → Prop} {N G : Nat → Value} {pid : Nat → UInt8} {P : Nat → Nat → Value}
    (h : NodeIs S w F Dd c r ab cap L φ N G pid P K) {a b : Nat} (ha : a ∈ L) (hb : b ∈ L) (e : pid a = pid b) : a = b := by
  obtain ⟨D, _, h1, _⟩ := h.pmap
  have e1 := h1 a ha .nil
  have e2 := h1 b hb .nil
  rw [e, e2] at e1
  simp only [DataW.held.injEq, Value.pointer.injEq, Option.some.injEq, Addr.mk.injEq, and_true] at e1
  exact e1.symm

set_option maxHeartbeats 4000000 in
set_option maxRecDepth 100000 in
theorem close_any {S : Nat → Prop} {w : World} {F : Fx} {Dd : UInt8 → Prop} {c : Nat} {r : Int} {ab cap : Nat} {L : List Nat} {Hd Zs : UInt8 → Prop} (h : NodeOK S w F Dd c r ab cap L (Phi F r Hd Zs)) (hc : c + 5 ≤ 1000000)
    (hz : ∀ u, IsNm u → u ≠ F.id → Zs u ∨ Dd u) :
    Calls Try.prog 32 #[.pointer (some ⟨F.nb, 0, none⟩)] w fun e w' => e = .returned (.tuple #[]) ∧ NG S w w' F Dd (c + 5) r ab cap L (Phi F r Hd Zs) := by
  have HH : Hid (NodeOK S w F Dd c r ab cap L (Phi F r Hd Zs)) := h
  have hl5 : L.length ≤ 5 := by obtain ⟨N, G, pid, P, K, h⟩ := h; exact h.l5
  have c5 : w.cell? ⟨F.nb, 5, none⟩ = some (.slice (some ⟨ab, 0, none⟩) L.length cap) := by
    obtain ⟨N, G, pid, P, K, h⟩ := h
    rw [← h.n5]; exact World.rowIs.cell h.nrow (by omega)
  clear h
  go_enter Try.func32, Try.ntmps32
  go_wp2_with (go_at_call 48; refine (waitFor_any HH.out).mono ?_; rintro e w' ⟨wt, q, hwt, rfl, rfl⟩)
  go_loopw [14] (fun i wr => ∃ j : Nat, j ≤ L.length ∧ i = .int .i64 j ∧ NG S w wr F Dd (c + j) r ab cap L (Phi F r Hd Zs)) (fun i _ => L.length - (intOf i).toNat)
  case atStart => exact ⟨0, Nat.zero_le _, rfl, (NG.start HH.out).drewN q⟩
  case round =>
    obtain ⟨j, hj, rfl, hng⟩ := hrel
    by_cases hlt : j < L.length
    · have hb : L[j] ∈ L := List.getElem_mem hlt
      have HN : Hid (NG S w wr F Dd (c + j) r ab cap L (Phi F r Hd Zs)) := hng
      obtain ⟨N, G, pid, P, K, hn⟩ := hng.1
      have hp := hn.peer _ hb
      obtain ⟨b1, d1⟩ := hp.1.cb 1 (by omega) rfl
      obtain ⟨z3, n3, d3⟩ := hp.1.cu 3 (by omega) rfl
      obtain ⟨z9, n9, d9⟩ := hp.1.cu 9 (by omega) rfl
      have d0 : wr.cell? ⟨L[j], 0, none⟩ = some (.string (idb (pid L[j]))) := by rw [← hp.1.p0]; exact World.rowIs.cell hp.1.row (by omega)
      have e0 : wr.cell? ⟨ab, j, none⟩ = some (.pointer (some ⟨L[j], 0, none⟩)) := by
        rw [← hn.bptr j hlt]; exact World.rowIs.cell hn.brow (by have := hn.bcap; omega)
      have c12 : wr.cell? ⟨F.nb, 12, none⟩ = some (.int .u64 r) := by rw [← hn.n12]; exact World.rowIs.cell hn.nrow (by omega)
      have c8 : wr.cell? ⟨F.nb, 8, none⟩ = some (.map (some F.qm)) := by rw [← hn.n8]; exact World.rowIs.cell hn.nrow (by omega)
      have hql : F.qm < wr.heap.size := by obtain ⟨D, a, _⟩ := hn.qmap; exact a.lt
      have hnl := World.rowIs.lt hn.nrow
      have hpl := World.rowIs.lt hp.1.row
      obtain ⟨t, bb, hlk, hwf, hbt, hbf⟩ := hn.qmap.lookok (pid L[j])
      -- who is not passed over is gone
      have key : b1 = true → (z3 == r) = false → ¬ z9 ≤ wt → Dd (pid L[j]) := by
        intro _ k2 k3
        have hx := hp.2.2
        have a3 : P L[j] 3 = .int .u64 z3 := by have := World.rowIs.cell hp.1.row (i := 3) (by omega); rw [d3] at this; exact (Option.some.inj this).symm
        have a9 : P L[j] 9 = .int .u64 z9 := by have := World.rowIs.cell hp.1.row (i := 9) (by omega); rw [d9] at this; exact (Option.some.inj this).symm
        by_cases es : L[j] = F.sb
        · have := hx.1 es
          rw [a3] at this
          simp only [Value.int.injEq, true_and] at this
          rw [this] at k2
          simp at k2
        · have hne : pid L[j] ≠ F.id := fun e => es (hn.pid_inj hb hn.self.1 (by rw [e, hn.self.2]))
          rcases hz _ hp.2.1 hne with hzz | hdd
          · have := hx.2.2 hzz
            rw [a9] at this
            simp only [Value.int.injEq, true_and] at this
            omega
          · exact hdd
      clear hng hn hp hb
      generalize L[j] = b at d1 d3 d9 d0 e0 hlk hbt hbf key hpl
      generalize pid b = u at d0 hlk hbt hbf key
      have KEY : Hid (b1 = true → (z3 == r) = false → ¬ z9 ≤ wt → Dd u) := key
      have HBT : Hid (bb = true → Dd u ∧ K u) := hbt
      have HBF : Hid (bb = false → t = 0 ∧ ¬ K u) := hbf
      clear key hbt hbf
      cases b1
      · have LK := hide0 hlk
        clear hlk
        go_wp2
        go_quiet (fail)
        go_wp2
        go_roundw
        case rel => exact ⟨j + 1, by omega, by go_num, (HN.out.drewN _).monoC (by omega)⟩
        case measure => simp [intOf]; omega
      by_cases t3 : (z3 == r) = true
      · have LK := hide0 hlk
        clear hlk
        go_wp2
        go_quiet (fail)
        go_wp2
        go_roundw
        case rel => exact ⟨j + 1, by omega, by go_num, (HN.out.drewN _).monoC (by omega)⟩
        case measure => simp [intOf]; omega
      have t3' : (z3 == r) = false := by simpa using t3
      clear t3
      by_cases t9 : z9 ≤ wt
      · have t9' : decide (z9 ≤ wt) = true := decide_eq_true t9
        have LK := hide0 hlk
        clear hlk
        go_wp2
        go_quiet (fail)
        go_wp2
        go_roundw
        case rel => exact ⟨j + 1, by omega, by go_num, (HN.out.drewN _).monoC (by omega)⟩
        case measure => simp [intOf]; omega
      have t9' : decide (z9 ≤ wt) = false := decide_eq_false t9
      have hdu : Dd u := KEY.out rfl t3' t9
      have LK := hide0 hlk
      clear hlk
      go_upto_region 4 with fail
      go_quiet (fail)
      have d0' : (wr.drewN nq).cell? ⟨b, 0, none⟩ = some (.string (idb u)) := d0
      have c8' : (wr.drewN nq).cell? ⟨F.nb, 8, none⟩ = some (.map (some F.qm)) := c8
      have hpl' : b < (wr.drewN nq).heap.size := hpl
      have hnl' : F.nb < (wr.drewN nq).heap.size := hnl
      have hql' : F.qm < (wr.drewN nq).heap.size := hql
      have LK' : Hid (∀ W : World, W.heap[F.qm]? = (wr.drewN nq).heap[F.qm]? → (Instr.lookup 61 (.map (some F.qm)) (.string (idb u)) true).run Try.prog W = .ok (.tuple #[.agg #[.int .u64 t, .bool bb], .bool bb]) W) := LK
      have HN' : Hid (NG S w (wr.drewN nq) F Dd (c + j) r ab cap L (Phi F r Hd Zs)) := HN.out.drewN nq
      clear d0 c8 hpl hnl hql LK HN d1 d3 d9 e0 c12
      generalize wr.drewN nq = wd at d0' c8' hpl' hnl' hql' LK' HN' ⊢
      have hlk1 : (Instr.lookup 61 (.map (some F.qm)) (.string (idb u)) true).run Try.prog wd.drew = .ok (.tuple #[.agg #[.int .u64 t, .bool bb], .bool bb]) wd.drew := LK'.out _ rfl
      have hlk2 : ∀ (o : Obj), (Instr.lookup 61 (.map (some F.qm)) (.string (idb u)) true).run Try.prog (wd.alloc o).drew = .ok (.tuple #[.agg #[.int .u64 t, .bool bb], .bool bb]) (wd.alloc o).drew := fun o => LK'.out _ (Below.heap_alloc _ _ _ hql')
      cases bb
      · obtain rfl : t = 0 := (HBF.out rfl).1
        have HN6 : Hid (NG S w (wd.alloc (.cells #[.int .u64 0, .bool true] 66)) F Dd (c + j) r ab cap L (Phi F r Hd Zs)) := HN'.out.alloc _
        have HS := set_any (S := grow S w (wd.alloc (.cells #[.int .u64 0, .bool true] 66))) (w := (wd.alloc (.cells #[.int .u64 0, .bool true] 66)).drew.drew) (HN6.out.drewN 2).1 (by omega) u hdu 0 rfl
        go_upto_region 5 with fail
        go_region
        all_goals go_upto_region 10 with fail
        all_goals go_region_with (go_at_call 49; refine HS.mono ?_; rintro e w5 ⟨rfl, hn5, ht5⟩)
        all_goals go_wp2_with fail
        all_goals
          go_roundw
          case rel =>
            refine ⟨j + 1, by omega, by go_num, NG.next (HN6.out.drewN 2) ⟨hn5, ht5⟩⟩
          case measure => simp [intOf]; omega
      · go_upto_region 5 with fail
        go_region
        go_wp2_with fail
        go_roundw
        case rel => exact ⟨j + 1, by omega, by go_num, ((HN'.out.alloc _).drewN 1).monoC (by omega)⟩
        case measure => simp [intOf]; omega
    · go_wp2
      go_end0
      exact ⟨rfl, hng.monoC (by omega)⟩
end Go.Proofs.Qxb6002353a
