import Derived.Test.Qxb6002353aMsg
namespace Go.Proofs.Qxb6002353a
open Go.RowKit Go.Maps

/-- a look-up in the peers, in any world that holds the map as it is -/
theorem PeersMap.lookup {w : World} {pm : Nat} {L : List Nat} {pid : Nat → UInt8} (h : PeersMap w pm L pid) (u : UInt8) :
    (∃ b ∈ L, pid b = u ∧ ∀ W : World, W.heap[pm]? = w.heap[pm]? → (Instr.lookup 59 (.map (some pm)) (.string (idb u)) false).run Try.prog W = .ok (.pointer (some ⟨b, 0, none⟩)) W) ∨
    ((∀ b ∈ L, pid b ≠ u) ∧ ∀ W : World, W.heap[pm]? = w.heap[pm]? → (Instr.lookup 59 (.map (some pm)) (.string (idb u)) false).run Try.prog W = .ok (.pointer none) W) := by
  obtain ⟨D, hown, h1, h2⟩ := h
  have hW : ∀ W : World, W.heap[pm]? = w.heap[pm]? → W.ownsMap Try.prog 9 RV pm 5 D := fun W e => by
    obtain ⟨es, cl, hb, hr⟩ := hown
    exact ⟨es, cl, e.trans hb, hr⟩
  have hl : ∀ W : World, W.heap[pm]? = w.heap[pm]? → ∃ v, (Instr.lookup 59 (.map (some pm)) (.string (idb u)) false).run Try.prog W = .ok v W ∧ D.atKey (.string [u]) (.held (.pointer none)) = .held v := by
    intro W e
    obtain ⟨v, ps, hr, hv⟩ := (hW W e).lookup law9 Try.underlying59 (zero74 _) (RV_mk _) (key_idb u)
    refine ⟨v, hr, ?_⟩
    simp only [RV, Option.some.injEq, Prod.mk.injEq] at hv
    exact hv.1.symm
  cases hh : Maps.has D (.string [u]) with
  | false =>
    refine .inr ⟨fun b hb e => ?_, fun W e => ?_⟩
    · have := h1 b hb (.held (.pointer none))
      rw [e, atKey_of_not_has hh] at this
      cases this
    · obtain ⟨v, hr, hv⟩ := hl W e
      rw [atKey_of_not_has hh] at hv
      simp only [DataW.held.injEq] at hv
      rw [← hv] at hr
      exact hr
  | true =>
    obtain ⟨b, hb, e⟩ := h2 [u] hh
    simp only [List.cons.injEq, and_true] at e
    refine .inl ⟨b, hb, e.symm, fun W ee => ?_⟩
    obtain ⟨v, hr, hv⟩ := hl W ee
    rw [e, h1 b hb] at hv
    simp only [DataW.held.injEq] at hv
    rw [← hv] at hr
    exact hr

section
variable {S : Nat → Prop} {w w' : World} {F : Fx} {Dd K : UInt8 → Prop} {c : Nat} {r : Int} {ab cap : Nat} {L : List Nat} {φ φ' : Nat → UInt8 → Value → Value → Value → Prop} {N G : Nat → Value} {pid : Nat → UInt8} {P : Nat → Nat → Value}

theorem NodeIs.one (h : NodeIs S w F Dd c r ab cap L φ N G pid P K) {b b' : Nat} (hb : b ∈ L) (hb' : b' ∈ L) (e : pid b = pid b') : b = b' := by
  obtain ⟨D, hown, h1, h2⟩ := h.pmap
  have e1 := h1 b hb (.held (.pointer none))
  have e2 := h1 b' hb' (.held (.pointer none))
  rw [e, e2] at e1
  simpa using e1.symm

theorem NodeIs.looks (h : NodeIs S w F Dd c r ab cap L φ N G pid P K) (W : World) (hW : W.heap[F.pm]? = w.heap[F.pm]?) : (Instr.lookup 59 (.map (some F.pm)) (.string (idb F.id)) false).run Try.prog W = .ok (.pointer (some ⟨F.sb, 0, none⟩)) W := by
  rcases h.pmap.lookup F.id with ⟨b, hb, e, hr⟩ | ⟨hn, _⟩
  · have : b = F.sb := h.one hb h.self.1 (by rw [e, h.self.2])
    rw [← this]; exact hr W hW
  · exact absurd h.self.2 (hn F.sb h.self.1)

/-- the round is set, and what is known of the peers' words turned -/
theorem NodeIs.setRd (h : NodeIs S w F Dd c r ab cap L φ N G pid P K) (z : Int) (hz : 0 ≤ z) (hφ : ∀ b ∈ L, ∀ u a h s, φ b u a h s → φ' b u a h s) : NodeIs S (w.setCell ⟨F.nb, 12, none⟩ (.int .u64 z)) F Dd c z ab cap L φ' (put N 12 (.int .u64 z)) G pid P K := by
  have g := grownBy_setCell w ⟨F.nb, 12, none⟩ (.int .u64 z)
  have o : ∀ j, j ≠ 12 → put N 12 (.int .u64 z) j = N j := fun j hj => put_other N 12 j _ hj
  refine (h.setN (r' := z) g (rowIs_put h.nrow 12 _) (o 0 (by decide)) (o 3 (by decide)) (o 4 (by decide)) (o 5 (by decide)) (by rw [o 7 (by decide)]; exact h.n7) (o 8 (by decide)) ?_ (o 11 (by decide)) (put_same _ _ _) ?_).mono (fun _ e => e) (fun _ e => e) h.dnm (Nat.le_refl _) (fun b hb hx => hφ b hb _ _ _ _ hx)
  · rw [o 9 (by decide)]
    exact h.car.kept g (fun gg hgg e => by cases e; have := h.car.tag hgg; rw [tag_row h.nrow] at this; cases this)
  · intro j hj
    by_cases e : j = 12
    · subst e; rw [put_same]; exact Ty.mku _ hz
    · rw [o j e]; exact h.nty j hj

theorem NT.setRd {w1 : World} (h : NT S w w1 F Dd c r ab cap L φ) (z : Int) (hz : 0 ≤ z) (hφ : ∀ b ∈ L, ∀ u a h s, φ b u a h s → φ' b u a h s) : NT S w (w1.setCell ⟨F.nb, 12, none⟩ (.int .u64 z)) F Dd c z ab cap L φ' := by
  obtain ⟨⟨N, G, pid, P, K, h⟩, ht⟩ := h
  exact ⟨⟨_, _, _, _, _, h.setRd z hz hφ⟩, ht.setCell (.inl h.inS.1) _⟩

theorem NodeOK.restrict (h : NodeOK S w F Dd c r ab cap L φ) : NodeOK (here S w) w F Dd c r ab cap L φ := by
  obtain ⟨N, G, pid, P, K, h⟩ := h
  exact ⟨_, _, _, _, _, h.restrict⟩
end

theorem info44 : (Try.prog.info? 44).map (fun i => (i.zero, i.size, i.bytes)) = some (some (.agg #[.int .u8 0, .string ByteArray.empty, .int .u64 0, .int .u64 0, .bool false, .int .u64 0, .int .u64 0, .slice none 0 0, .slice none 0 0, .slice none 0 0]), 10, 136) := by kernel_rfl
end Go.Proofs.Qxb6002353a
