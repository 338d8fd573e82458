import Derived.Test.Qxb6002353aRec
namespace Go.Proofs.Qxb6002353a
open Go.RowKit Go.Maps

theorem Entries.nil (S : Nat → Prop) (w : World) (Dd : UInt8 → Prop) : Entries S w Dd (.slice none 0 0) := by
  refine ⟨[], World.ownsRow_nil _ _ _ _, ?_, Nat.zero_le _, ?_⟩
  · intro x hx; cases hx
  · intro g hg; cases hg
theorem lit_key (u : UInt8) : WideAt.IsKeyLit (.string [u]) := trivial

section
variable {S : Nat → Prop} {w w' : World} {F : Fx} {Dd K : UInt8 → Prop} {c : Nat} {r : Int} {ab cap : Nat} {L : List Nat} {φ : Nat → UInt8 → Value → Value → Value → Prop} {N G : Nat → Value} {pid : Nat → UInt8} {P : Nat → Nat → Value}

/-- 'm[u] = p' on the pairs: the run, and what the map then is -/
theorem PairsMap.store {qm : Nat} (h : PairsMap w qm Dd K) (hn : ∀ u, Dd u → IsNm u) {u : UInt8} (hu : Dd u) {t : Int} (ht : (Lit.int .u64 t).wf = true) :
    ∃ w2, (Instr.mapUpdate 61 (.map (some qm)) (.string (idb u)) (.agg #[.int .u64 t, .bool true])).run Try.prog w = .ok () w2 ∧ PairsMap w2 qm Dd (fun x => K x ∨ x = u) ∧ w.grownBy w2 (some qm) := by
  obtain ⟨D, hown, h1, h2⟩ := h
  obtain ⟨w2, hr, hown2, hg⟩ := hown.update law9 Try.underlying61 (by unfold maxLen; omega) (key_idb u) (RV_mk (.agg #[.int .u64 t, .bool true]))
  have hm := hown.isMap
  have hk : ∀ l, Maps.has (D.put (.string [u]) (.held (.agg #[.int .u64 t, .bool true]))) (.string l) = true → ∃ x t', l = [x] ∧ Dd x ∧ (K x ∨ x = u) ∧ (Lit.int .u64 t').wf = true ∧ ∀ z, (D.put (.string [u]) (.held (.agg #[.int .u64 t, .bool true]))).atKey (.string l) z = .held (.agg #[.int .u64 t', .bool true]) := by
    intro l hl
    by_cases e : l = [u]
    · subst e
      exact ⟨u, t, rfl, hu, .inr rfl, ht, fun z => atKey_put_same hm (lit_key u) _ _⟩
    · have hne : Lit.string l ≠ Lit.string [u] := fun e' => e (by cases e'; rfl)
      rw [has_put_other hne] at hl
      obtain ⟨x, t', e1, e2, e3, e4, e5⟩ := h1 l hl
      exact ⟨x, t', e1, e2, .inl e3, e4, fun z => by rw [atKey_put_other hne]; exact e5 z⟩
  refine ⟨w2, hr, ⟨_, tight hown2 (size_names hown2 (fun l hl => ?_)), hk, fun x hx => ?_⟩, hg⟩
  · obtain ⟨x, _, e1, e2, _⟩ := hk l hl
    exact ⟨x, e1, hn x e2⟩
  · by_cases e : x = u
    · subst e; exact has_put_same hm (lit_key x) _
    · rcases hx with hx | hx
      · rw [has_put_other (by simp [e])]; exact h2 x hx
      · exact absurd hx e

theorem NewsMap.store {nm : Nat} (h : NewsMap w nm K) (hn : ∀ u, K u → IsNm u) {u : UInt8} (hu : K u) :
    ∃ w2, (Instr.mapUpdate 62 (.map (some nm)) (.string (idb u)) (.bool true)).run Try.prog w = .ok () w2 ∧ NewsMap w2 nm K ∧ w.grownBy w2 (some nm) := by
  obtain ⟨D, hown, h1⟩ := h
  obtain ⟨w2, hr, hown2, hg⟩ := hown.update law9 Try.underlying62 (by unfold maxLen; omega) (key_idb u) (RV_mk (.bool true))
  have hk : ∀ l, Maps.has (D.put (.string [u]) (.held (.bool true))) (.string l) = true → ∃ x, l = [x] ∧ K x := by
    intro l hl
    by_cases e : l = [u]
    · subst e; exact ⟨u, rfl, hu⟩
    · rw [has_put_other (fun e' => e (by cases e'; rfl))] at hl
      exact h1 l hl
  refine ⟨w2, hr, ⟨_, tight hown2 (size_names hown2 (fun l hl => ?_)), hk⟩, hg⟩
  obtain ⟨x, e1, e2⟩ := hk l hl
  exact ⟨x, e1, hn x e2⟩

theorem NodeIs.knm (h : NodeIs S w F Dd c r ab cap L φ N G pid P K) : ∀ u, K u → IsNm u := by
  intro u hu
  obtain ⟨D, _, h1, h2⟩ := h.qmap
  obtain ⟨x, _, e1, e2, _⟩ := h1 [u] (h2 u hu)
  simp only [List.cons.injEq, and_true] at e1
  rw [e1]
  exact h.dnm x e2

/-- the pairs' map is written -/
theorem NodeIs.setM (h : NodeIs S w F Dd c r ab cap L φ N G pid P K) {K' : UInt8 → Prop} (hK : ∀ u, K u → K' u) (hg : w.grownBy w' (some F.qm)) (hq : PairsMap w' F.qm Dd K') : NodeIs S w' F Dd c r ab cap L φ N G pid P K' := by
  have t0 := h.qmap.tag
  have ne : ∀ k, tag w k ≠ 1000 → some k ≠ some F.qm := fun k hk e => by cases e; exact hk t0
  obtain ⟨d1, d2, d3⟩ := h.dif
  exact { h with
    nrow := rowIs_kept h.nrow hg (ne _ (by rw [tag_row h.nrow]; decide))
    car := h.car.kept hg (fun g hgv => ne g (by rw [h.car.tag hgv]; decide))
    brow := rowIs_kept h.brow hg (ne _ (by rw [tag_row h.brow]; decide))
    peer := fun b hb => ⟨(h.peer b hb).1.kept hg (ne _ (by rw [tag_row (h.peer b hb).1.row]; decide)), (h.peer b hb).2⟩
    pmap := h.pmap.kept hg (fun e => d1 (Option.some.inj e))
    qmap := hq
    nmap := by
      obtain ⟨D, a1, a2⟩ := h.nmap.kept hg (fun e => d3 (Option.some.inj e).symm)
      exact ⟨D, a1, fun l hl => by obtain ⟨u, e1, e2⟩ := a2 l hl; exact ⟨u, e1, hK u e2⟩⟩
    recd := h.recd.kept hg (fun k e => by cases e; rw [t0]; decide)
    cbox := rowIs_kept h.cbox hg (ne _ (by rw [tag_row h.cbox]; decide)) }

/-- the news' map is written -/
theorem NodeIs.setW (h : NodeIs S w F Dd c r ab cap L φ N G pid P K) (hg : w.grownBy w' (some F.nm)) (hq : NewsMap w' F.nm K) : NodeIs S w' F Dd c r ab cap L φ N G pid P K := by
  have t0 := h.nmap.tag
  have ne : ∀ k, tag w k ≠ 1000 → some k ≠ some F.nm := fun k hk e => by cases e; exact hk t0
  obtain ⟨d1, d2, d3⟩ := h.dif
  exact { h with
    nrow := rowIs_kept h.nrow hg (ne _ (by rw [tag_row h.nrow]; decide))
    car := h.car.kept hg (fun g hgv => ne g (by rw [h.car.tag hgv]; decide))
    brow := rowIs_kept h.brow hg (ne _ (by rw [tag_row h.brow]; decide))
    peer := fun b hb => ⟨(h.peer b hb).1.kept hg (ne _ (by rw [tag_row (h.peer b hb).1.row]; decide)), (h.peer b hb).2⟩
    pmap := h.pmap.kept hg (fun e => d2 (Option.some.inj e))
    qmap := h.qmap.kept hg (fun e => d3 (Option.some.inj e))
    nmap := hq
    recd := h.recd.kept hg (fun k e => by cases e; rw [t0]; decide)
    cbox := rowIs_kept h.cbox hg (ne _ (by rw [tag_row h.cbox]; decide)) }

/-- the list that a message would carry is dropped, or made anew -/
theorem NodeIs.setC (h : NodeIs S w F Dd c r ab cap L φ N G pid P K) (v : Value) (hv : Entries S w Dd v) : NodeIs S (w.setCell ⟨F.nb, 9, none⟩ v) F Dd c r ab cap L φ (put N 9 v) G pid P K := by
  have g := grownBy_setCell w ⟨F.nb, 9, none⟩ v
  have o : ∀ j, j ≠ 9 → put N 9 v j = N j := fun j hj => put_other N 9 j v hj
  refine h.setN g (rowIs_put h.nrow 9 v) (o 0 (by decide)) (o 3 (by decide)) (o 4 (by decide)) (o 5 (by decide)) (by rw [o 7 (by decide)]; exact h.n7) (o 8 (by decide)) ?_ (o 11 (by decide)) (by rw [o 12 (by decide)]; exact h.n12) ?_
  · rw [put_same]
    exact hv.kept g (fun gg hgg e => by cases e; have := hv.tag hgg; rw [tag_row h.nrow] at this; cases this)
  · intro j hj
    by_cases e : j = 9
    · subst e; exact Ty.mk0 _
    · rw [put_other _ _ _ _ e]; exact h.nty j hj

/-- the recorder's step, seen from the node -/
theorem NodeIs.setR (h : NodeIs S w F Dd c r ab cap L φ N G pid P K) (ht : Touch (TR S w F.rb) w w') (hr : RecIs (grow S w w') w' F.rb Dd (c + 1)) : NodeIs (grow S w w') w' F Dd (c + 1) r ab cap L φ N G pid P K := by
  obtain ⟨s1, s2, s3, s4, s5, s6, s7, s8⟩ := h.inS
  have trb : tag w F.rb = 39 := by
    obtain ⟨iv, fv, bad, xi, xf, h1, _⟩ := h.recd
    exact tag_row h1
  have kp : ∀ k, k < w.heap.size → tag w k ≠ 39 → tag w k ≠ 10 → w'.heap[k]? = w.heap[k]? := fun k hk h1 h2 => ht.block k hk (fun e => by
    rcases e with e | e
    · exact h1 (by rw [e]; exact trb)
    · exact h2 e.2)
  have rk : ∀ {b t n : Nat} {f : Nat → Value}, w.rowIs b t n f → t ≠ 38 → t ≠ 9 → w'.rowIs b t n f := fun hrow h1 h2 =>
    World.rowIs.of_block hrow (kp _ (World.rowIs.lt hrow) (by rw [tag_row hrow]; omega) (by rw [tag_row hrow]; omega))
  have mk : ∀ {b n : Nat} {D : DataW Value}, w.ownsMap Try.prog 9 RV b n D → w'.ownsMap Try.prog 9 RV b n D := fun hm => by
    have e := kp _ hm.lt (by rw [tag_map hm]; decide) (by rw [tag_map hm]; decide)
    obtain ⟨es, cl, hb, hrest⟩ := hm
    exact ⟨es, cl, e.trans hb, hrest⟩
  have g1 : ∀ i, S i → grow S w w' i := fun i hi => .inl hi
  exact { h with
    nrow := rk h.nrow (by decide) (by decide)
    n7 := by obtain ⟨a, h1, h2, h3⟩ := h.n7; exact ⟨a, h1, h2, by omega⟩
    car := by
      obtain ⟨xs, h1, h2, h3, h4⟩ := h.car
      refine ⟨xs, ?_, h2, h3, fun g hg => .inl (h4 g hg)⟩
      refine ⟨h1.1, ?_⟩
      rcases h1.2 with e | ⟨g, cp, cur, e1, e2, e3, e4⟩
      · exact .inl e
      · refine .inr ⟨g, cp, cur, e1, e2, (kp g (Array.getElem?_eq_some_iff.1 e3).1 ?_ ?_).trans e3, e4⟩
        · simp [tag, e3]
        · simp [tag, e3]
    brow := rk h.brow (by decide) (by decide)
    peer := fun b hb => ⟨⟨rk (h.peer b hb).1.row (by decide) (by decide), (h.peer b hb).1.p0, (h.peer b hb).1.ty⟩, (h.peer b hb).2⟩
    pmap := by obtain ⟨D, a1, a2⟩ := h.pmap; exact ⟨D, mk a1, a2⟩
    qmap := by obtain ⟨D, a1, a2⟩ := h.qmap; exact ⟨D, mk a1, a2⟩
    nmap := by obtain ⟨D, a1, a2⟩ := h.nmap; exact ⟨D, mk a1, a2⟩
    recd := hr
    cbox := rk h.cbox (by decide) (by decide)
    inS := ⟨g1 _ s1, g1 _ s2, fun b hb => g1 b (s3 b hb), g1 _ s4, g1 _ s5, g1 _ s6, g1 _ s7, g1 _ s8⟩ }
end

theorem neq53 (cb : Nat) (w : World) : (binOp .neq 53 (.func (.func 21) #[] #[.pointer (some ⟨cb, 0, none⟩)]) .nilFunc).run Try.prog w = .ok (.bool true) w := by kernel_rfl

/-- behind a suspicion that has been laid -/
def SetPost (S : Nat → Prop) (w : World) (F : Fx) (Dd : UInt8 → Prop) (c : Nat) (r : Int) (ab cap : Nat) (L : List Nat) (φ : Nat → UInt8 → Value → Value → Value → Prop) (e : Ending) (w' : World) : Prop :=
  e = .returned (.tuple #[]) ∧ NodeOK (grow S w w') w' F Dd (c + 1) r ab cap L φ ∧ Touch S w w'

theorem clos_any {S : Nat → Prop} {w : World} {rb cb c : Nat} {Dd : UInt8 → Prop} (h : RecIs S w rb Dd c) (hcb : w.cell? ⟨cb, 0, none⟩ = some (.pointer (some ⟨rb, 0, none⟩))) (u : UInt8) (hu : Dd u) (hc : c ≤ 1000000) :
    Calls Try.prog 21 #[.string (idb u), .bool true, .pointer (some ⟨cb, 0, none⟩)] w (OnPost S w rb Dd c) := by
  have HC := on_any h u hu hc
  clear h
  go_enter Try.func21, Try.ntmps21
  go_wp2_with (go_at_call 22; refine HC.mono ?_; rintro e w' ⟨rfl, h1, h2⟩)
  go_end0
  exact ⟨rfl, h1, h2⟩

set_option maxHeartbeats 4000000 in
set_option maxRecDepth 100000 in
theorem set_any {S : Nat → Prop} {w : World} {F : Fx} {Dd : UInt8 → Prop} {c : Nat} {r : Int} {ab cap : Nat} {L : List Nat} {φ : Nat → UInt8 → Value → Value → Value → Prop} (h : NodeOK S w F Dd c r ab cap L φ) (hc : c ≤ 1000000)
    (u : UInt8) (hu : Dd u) (t : Int) (ht : (Lit.int .u64 t).wf = true) :
    Calls Try.prog 49 #[.pointer (some ⟨F.nb, 0, none⟩), .string (idb u), .agg #[.int .u64 t, .bool true]] w (SetPost S w F Dd c r ab cap L φ) := by
  obtain ⟨N, G, pid, P, K, h⟩ := h
  have h1 := h.alloc (.cells #[.int .u64 t, .bool true] 66)
  obtain ⟨t0, b0, hlk, _⟩ := h1.qmap.look u
  have hlk0 := hlk 0
  rw [World.drewN_zero] at hlk0
  have h2 := h1.drewN 1
  obtain ⟨w2, hup, hq2, hg2⟩ := h2.qmap.store h.dnm hu ht
  rw [← World.drew_is_drewN] at hup hg2
  have h3 := NodeIs.setM h2 (fun _ e => .inl e) hg2 hq2
  have c8 : w.cell? ⟨F.nb, 8, none⟩ = some (.map (some F.qm)) := by rw [← h.n8]; exact World.rowIs.cell h.nrow (by omega)
  have hnl := World.rowIs.lt h.nrow
  have hfd := field66
  have hn53 := neq53
  have en : Entries S w2 Dd (.slice none 0 0) := Entries.nil S w2 Dd
  obtain ⟨v9, c9⟩ : ∃ v, w2.cell? ⟨F.nb, 9, none⟩ = some v := ⟨_, World.rowIs.cell h3.nrow (by omega)⟩
  have f9 := h3.fz 9
  have c11 : w2.cell? ⟨F.nb, 11, none⟩ = some (.map (some F.nm)) := by rw [← h3.n11]; exact World.rowIs.cell h3.nrow (by omega)
  have h4 := h3.setC (.slice none 0 0) en
  obtain ⟨w3, hup3, hn3, hg3⟩ := h4.nmap.store h4.knm (u := u) (.inr rfl)
  have h5 := h4.setW hg3 hn3
  obtain ⟨z23, n23, c23⟩ := h5.cu 23 (by omega) rfl
  obtain ⟨z15, n15, c15⟩ := h5.cu 15 (by omega) rfl
  have f15 := h5.fz 15
  have c3 : w3.cell? ⟨F.nb, 3, none⟩ = some (.func (.func 21) #[] #[.pointer (some ⟨F.cb, 0, none⟩)]) := by
    have := World.rowIs.cell h5.nrow (i := 3) (by omega)
    rw [h5.n3] at this
    exact this
  have hql : F.qm < w.heap.size := by obtain ⟨D, a, _⟩ := h.qmap; exact a.lt
  have hml : F.nm < w.heap.size := by obtain ⟨D, a, _⟩ := h.nmap; exact a.lt
  have bx : w3.cell? ⟨w.heap.size, 1, none⟩ = some (.bool true) := by
    have e1 : w2.cell? ⟨w.heap.size, 1, none⟩ = some (.bool true) := by
      refine hg2.cell ?_ (by simp; omega)
      show (w.alloc _).cell? _ = _
      simp
    have e2 : (w2.setCell ⟨F.nb, 9, none⟩ (.slice none 0 0)).cell? ⟨w.heap.size, 1, none⟩ = some (.bool true) := (grownBy_setCell w2 ⟨F.nb, 9, none⟩ _).cell e1 (by simp; omega)
    exact hg3.cell e2 (by simp; omega)
  have T3 : Touch S w w3 := ((((Touch.refl S w).alloc _).drewN 1).grown hg2 (fun k e => by cases e; exact .inl h.inS.2.2.2.2.1)).setCell (.inl h.inS.1) (.slice none 0 0) |>.grown hg3 (fun k e => by cases e; exact .inl h.inS.2.2.2.2.2.1)
  have HF : Hid (NodeIs S w3 F Dd c r ab cap L φ (put N 9 (.slice none 0 0)) G pid P (fun x => K x ∨ x = u) ∧ Touch S w w3) := ⟨h5, T3⟩
  have h6 := (h5.setP 15 (.int .u64 z23) (by simp) (Ty.mku _ (by first | assumption | exact wrap_nn _ | omega))).drewN 1
  have HCL : Calls Try.prog 21 #[.string (idb u), .bool true, .pointer (some ⟨F.cb, 0, none⟩)] (w3.setCell ⟨F.nb, 15, none⟩ (.int .u64 z23)).drew (OnPost S (w3.setCell ⟨F.nb, 15, none⟩ (.int .u64 z23)).drew F.rb Dd c) :=
    clos_any h6.recd (World.rowIs.cell h6.cbox (i := 0) (by omega)) u hu hc
  have H6 : Hid (NodeIs S ((w3.setCell ⟨F.nb, 15, none⟩ (.int .u64 z23)).drewN 1) F Dd c r ab cap L φ (put (put N 9 (.slice none 0 0)) 15 (.int .u64 z23)) G pid P (fun x => K x ∨ x = u)) := h6
  clear hlk h1 h2 h3 h4 h5 h6 hq2 hn3 en T3 h
  cases b0
  · go_enter Try.func49, Try.ntmps49
    go_upto_region 2 with fail
    go_region
    go_upto_region 7 with fail
    go_region_with (go_at_call 21; refine HCL.mono ?_; rintro e w5 ⟨rfl, hr5, ht5⟩)
    all_goals (try go_wp2_with fail)
    all_goals
      go_end0
      have hT : Touch S w ((w3.setCell ⟨F.nb, 15, none⟩ (.int .u64 z23)).drewN 1) := (HF.out.2.setCell (.inl HF.out.1.inS.1) _).drewN 1
      refine ⟨rfl, ⟨_, _, _, _, _, (H6.out.setR ht5 hr5).mono (fun i e => grow_trans (S := S) hT.size ht5.size (by rcases e with e | e; exact .inl (.inl e); exact .inr e)) (fun _ e => e) H6.out.dnm (Nat.le_refl _) (fun _ _ e => e)⟩, ?_⟩
      refine hT.trans (ht5.mono (fun i e => ?_))
      rcases e with e | e
      · rw [e]; exact .inl HF.out.1.inS.2.2.2.2.2.2.1
      · exact .inl e.1
  · go_enter Try.func49, Try.ntmps49
    go_upto_region 2 with fail
    go_region
    go_wp2_with fail
    go_end0
    refine ⟨rfl, ⟨_, _, _, _, _, ((HF.out.1.setP 15 _ (by simp) (Ty.mku _ (by first | assumption | exact wrap_nn _ | omega))).mono (fun i e => .inl e) (fun _ e => e) HF.out.1.dnm (Nat.le_succ _) (fun _ _ e => e))⟩, HF.out.2.setCell (.inl HF.out.1.inS.1) _⟩
end Go.Proofs.Qxb6002353a
