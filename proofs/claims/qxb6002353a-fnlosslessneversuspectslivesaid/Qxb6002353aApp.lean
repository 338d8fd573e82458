import Derived.Test.Qxb6002353aKeys
import Derived.Deep.RegionLaw
import Derived.MapFrom
namespace Go.Proofs.Qxb6002353a
open Go.RowKit Go.Maps

theorem info91 : (Try.prog.info? 91).map (fun i => (i.zero, i.size, i.bytes)) = some (some (.agg #[.string ByteArray.empty, .int .u64 0, .bool false]), 3, 32) := by kernel_rfl

section
variable {S : Nat → Prop} {w w1 : World} {F : Fx} {Dd K : UInt8 → Prop} {c : Nat} {r : Int} {ab cap : Nat} {L : List Nat} {φ : Nat → UInt8 → Value → Value → Value → Prop} {N G : Nat → Value} {pid : Nat → UInt8} {P : Nat → Nat → Value}

/-- the list of pairs has grown, in place or not, and is laid in its cell -/
theorem NodeIs.appC (h : NodeIs S w F Dd c r ab cap L φ N G pid P K) {row : Option Nat} (hrow : ∀ g, row = some g → tag w g = 92) (hg : w.grownBy w1 row) (v : Value) (hv : Entries S w1 Dd v) : NodeIs S (w1.setCell ⟨F.nb, 9, none⟩ v) F Dd c r ab cap L φ (put N 9 v) G pid P K := by
  have ne : ∀ k, tag w k ≠ 92 → some k ≠ row := fun k hk e => hk (hrow k e.symm)
  have h1 : w1.rowIs F.nb 64 24 N := rowIs_kept h.nrow hg (ne _ (by rw [tag_row h.nrow]; decide))
  have g2 := grownBy_setCell w1 ⟨F.nb, 9, none⟩ v
  have t1 : tag w1 F.nb = 65 := tag_row h1
  have ne2 : ∀ k, tag w1 k ≠ 65 → some k ≠ some F.nb := fun k hk e => by cases e; exact hk t1
  have rk : ∀ {b t n : Nat} {f : Nat → Value}, w.rowIs b t n f → t ≠ 91 → t ≠ 64 → (w1.setCell ⟨F.nb, 9, none⟩ v).rowIs b t n f := fun hr h1 h2 => by
    have a1 := rowIs_kept hr hg (ne _ (by rw [tag_row hr]; omega))
    exact rowIs_kept a1 g2 (ne2 _ (by rw [tag_row a1]; omega))
  have mk : ∀ {b n : Nat} {D : DataW Value}, w.ownsMap Try.prog 9 RV b n D → (w1.setCell ⟨F.nb, 9, none⟩ v).ownsMap Try.prog 9 RV b n D := fun hm => by
    have a1 := hm.kept hg (ne _ (by rw [tag_map hm]; decide))
    exact a1.kept g2 (ne2 _ (by rw [tag_map a1]; decide))
  exact { h with
    nrow := rowIs_put h1 9 v
    n0 := h.n0
    n3 := h.n3
    n4 := h.n4
    n5 := h.n5
    n7 := h.n7
    n8 := h.n8
    n11 := h.n11
    n12 := h.n12
    nty := fun j hj => by
      by_cases e : j = 9
      · subst e; exact Ty.mk0 _
      · rw [put_other _ _ _ _ e]; exact h.nty j hj
    car := by
      rw [put_same]
      exact hv.kept g2 (fun g hgv => ne2 g (by rw [hv.tag hgv]; decide))
    brow := rk h.brow (by decide) (by decide)
    peer := fun b hb => ⟨⟨rk (h.peer b hb).1.row (by decide) (by decide), (h.peer b hb).1.p0, (h.peer b hb).1.ty⟩, (h.peer b hb).2⟩
    pmap := by obtain ⟨D, a1, a2⟩ := h.pmap; exact ⟨D, mk a1, a2⟩
    qmap := by obtain ⟨D, a1, a2⟩ := h.qmap; exact ⟨D, mk a1, a2⟩
    nmap := by obtain ⟨D, a1, a2⟩ := h.nmap; exact ⟨D, mk a1, a2⟩
    recd := by
      have a1 := h.recd.kept hg (fun k e => by rw [hrow k e]; decide)
      exact a1.kept g2 (fun k e => by cases e; rw [t1]; decide)
    cbox := rk h.cbox (by decide) (by decide) }
end

/-- 'append' as one step of a region that draws, its run known -/
theorem step_append_run {P : Program} {ops : Array Oper} {o : Oper} {a : Act} {w : World} {K : Act → World → Prop} {Q : Exit → Act → World → Prop} {E : Prop}
    (hg : o.guard = none) (s x : Operand) (t u : TypeId) (hop : o.op = Op.call { callee := Callee.builtin Builtin.append, args := #[s, x], argTypes := #[t, u] })
    (v vx : Value) (hs : a.eval s = v) (hx : a.eval x = vx) (v' : Value) (w' : World) (hrun : (Builtin.append_ #[t, u] o.type #[v, vx]).run P w = .ok v' w') (hK : K (a.put o.dst v') w') :
    if Region.wanted o (yielded ops a.tmps) = true then Oper.wp P o a w K Q else E := by
  have hw : Region.wanted o (yielded ops a.tmps) = true := by simp [Region.wanted, hg]
  rw [if_pos hw]
  unfold Oper.wp
  simp [execOp, hop, resolve, invoke, builtin, hs, hx, hrun, Result.andThen]
  exact hK

/-- 'clear(m)' on the news: the run, and what the map then is -/
theorem NewsMap.clear {w : World} {nm : Nat} {K : UInt8 → Prop} (h : NewsMap w nm K) :
    ∃ w2, (∀ ty, (Builtin.clear_ #[62] ty #[.map (some nm)]).run Try.prog w = .ok (.tuple #[]) w2) ∧ NewsMap w2 nm K ∧ w.grownBy w2 (some nm) := by
  obtain ⟨D, ⟨es, clock, hb, hfit, hsz, hD⟩, h1⟩ := h
  refine ⟨{ w with heap := w.heap.setIfInBounds nm (.map #[] clock) }, fun ty => ?_, ⟨.map [], ⟨#[], clock, (MapKept.heap_set hb).1, ⟨by simp [maxLen], ?_, ?_⟩, by simp, rfl⟩, ?_⟩, ⟨rfl, rfl, rfl, by simp, fun k _ hne => (MapKept.heap_set hb).2 k (fun e => hne (by rw [e]))⟩⟩
  · simp [Builtin.clear_, run_underlying Try.underlying62, MapKept.run_getObj_map hb, MapKept.run_setObj_map _ hb, Result.andThen]
  · simp [MapKept.Stamped]
  · intro x hx; cases hx
  · intro l hl; simp [Maps.has] at hl
end Go.Proofs.Qxb6002353a
