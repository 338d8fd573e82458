import Derived.Test.Qxb6002353aLook
import Derived.Laws.ResultCell
namespace Go.Proofs.Qxb6002353a
open Go.RowKit Go.Maps

theorem row10 {w : World} {b t : Nat} {f : Nat → Value} (h : w.rowIs b t 10 f) : w.heap[b]? = some (.cells #[f 0, f 1, f 2, f 3, f 4, f 5, f 6, f 7, f 8, f 9] t (0, 0)) := by
  obtain ⟨c, hc, hs, hf⟩ := h
  rw [hc]
  have : c = #[f 0, f 1, f 2, f 3, f 4, f 5, f 6, f 7, f 8, f 9] := by
    apply Array.ext
    · simp [hs]
    · intro i h1 h2
      have h3 := hf i (by omega)
      rw [Array.getElem?_eq_getElem h1] at h3
      have h3 := Option.some.inj h3
      rw [h3]
      have h10 : i < 10 := by omega
      match i, h10 with
      | 0, _ | 1, _ | 2, _ | 3, _ | 4, _ | 5, _ | 6, _ | 7, _ | 8, _ | 9, _ => rfl
  rw [this]

/-- the ten cells of a row are written, one behind the other -/
def set10 (w : World) (b : Nat) (v0 v1 v2 v3 v4 v5 v6 v7 v8 v9 : Value) : World :=
  (((((((((w.setCell ⟨b, 0, none⟩ v0).setCell ⟨b, 1, none⟩ v1).setCell ⟨b, 2, none⟩ v2).setCell ⟨b, 3, none⟩ v3).setCell ⟨b, 4, none⟩ v4).setCell ⟨b, 5, none⟩ v5).setCell ⟨b, 6, none⟩ v6).setCell ⟨b, 7, none⟩ v7).setCell ⟨b, 8, none⟩ v8).setCell ⟨b, 9, none⟩ v9

theorem set10_row {w : World} {b t : Nat} {f : Nat → Value} (h : w.rowIs b t 10 f) (v0 v1 v2 v3 v4 v5 v6 v7 v8 v9 : Value) : (set10 w b v0 v1 v2 v3 v4 v5 v6 v7 v8 v9).heap[b]? = some (.cells #[v0, v1, v2, v3, v4, v5, v6, v7, v8, v9] t (0, 0)) := by
  have h10 := rowIs_put (rowIs_put (rowIs_put (rowIs_put (rowIs_put (rowIs_put (rowIs_put (rowIs_put (rowIs_put (rowIs_put h 0 v0) 1 v1) 2 v2) 3 v3) 4 v4) 5 v5) 6 v6) 7 v7) 8 v8) 9 v9
  have := row10 h10
  simpa [put, set10] using this

theorem gstep {a b : World} {k : Nat} (h : a.grownBy b (some k)) (i : Nat) (v : Value) : a.grownBy (b.setCell ⟨k, i, none⟩ v) (some k) := h.trans (grownBy_setCell b ⟨k, i, none⟩ v)

theorem set10_grown (w : World) (b : Nat) (v0 v1 v2 v3 v4 v5 v6 v7 v8 v9 : Value) : w.grownBy (set10 w b v0 v1 v2 v3 v4 v5 v6 v7 v8 v9) (some b) :=
  gstep (gstep (gstep (gstep (gstep (gstep (gstep (gstep (gstep (grownBy_setCell w ⟨b, 0, none⟩ v0) 1 v1) 2 v2) 3 v3) 4 v4) 5 v5) 6 v6) 7 v7) 8 v8) 9 v9

theorem set10_size (w : World) (b : Nat) (v0 v1 v2 v3 v4 v5 v6 v7 v8 v9 : Value) : (set10 w b v0 v1 v2 v3 v4 v5 v6 v7 v8 v9).heap.size = w.heap.size := by
  simp [set10, World.setCell]

theorem size44 : (Try.prog.info? 44).map (·.size) = some 10 := by kernel_rfl

/-- a message is kept while a block is written that is none of its lists' -/
theorem MsgOK.kept {S : Nat → Prop} {w w' : World} {Dd : UInt8 → Prop} {u : UInt8} {v : Value} {row : Option Nat} (h : MsgOK S w Dd u v) (hg : w.grownBy w' row) (hne : ∀ k, row = some k → ¬ S k) : MsgOK S w' Dd u v := by
  obtain ⟨M, xa, rs, h1, h2, h3, h4, h5, h6, h7, h8, h9, h10⟩ := h
  refine ⟨M, xa, rs, h1, h2, h3.kept hg (fun g hgv e => ?_), ?_, ?_, h6, h7, h8, h9, h10⟩
  · obtain ⟨_, _, _, _, hs⟩ := h3
    exact hne g e.symm (hs g hgv)
  · refine h4.kept hg ?_
    cases hv : (M 8).ownBlock with
    | none => exact .inl rfl
    | some g => exact .inr (fun e => hne g e.symm (h9 g hv))
  · refine h5.kept hg ?_
    cases hv : (M 9).ownBlock with
    | none => exact .inl rfl
    | some g => exact .inr (fun e => hne g e.symm (h10 g hv))

theorem MsgOK.mono {S S' : Nat → Prop} {w : World} {Dd Dd' : UInt8 → Prop} {u : UInt8} {v : Value} (h : MsgOK S w Dd u v) (hS : ∀ i, S i → S' i) (hD : ∀ u, Dd u → Dd' u) : MsgOK S' w Dd' u v := by
  obtain ⟨M, xa, rs, h1, h2, h3, h4, h5, h6, h7, h8, h9, h10⟩ := h
  exact ⟨M, xa, rs, h1, h2, h3.mono hS hD, h4, h5, h6, h7, h8, fun g hg => hS g (h9 g hg), fun g hg => hS g (h10 g hg)⟩
end Go.Proofs.Qxb6002353a
