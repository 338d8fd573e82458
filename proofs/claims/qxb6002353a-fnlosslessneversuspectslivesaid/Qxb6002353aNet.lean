/-
  THE NETWORK: its nodes, each in blocks of its own. No walk in this text.
-/
import Derived.Test.Qxb6002353aAdd
import Derived.Test.Qxb6002353aLw0
namespace Go.Proofs.Qxb6002353a
open Go.RowKit Go.Maps

/-- one node in its blocks: of H it has heard; where z, its first round has not begun -/
def NodeAt (w : World) (S : Nat → Prop) (F : Fx) (Dd : UInt8 → Prop) (c : Nat) (H : UInt8 → Prop) (z : Prop) : Prop :=
  ∃ r ab cap L Zs, NodeOK S w F Dd c r ab cap L (Phi F r H Zs) ∧ (z → r = 0)

def ptrs (Fs : Nat → Fx) (f : Fx → Nat) (m : Nat) : Nat → Value := fun x => if x < m then .pointer (some ⟨f (Fs x), 0, none⟩) else .pointer none

structure Net (w : World) (k m ndb rcb : Nat) (Fs : Nat → Fx) (Ss : Nat → Nat → Prop) (E : Nat → Prop) (Dd : UInt8 → Prop) (c : Nat) (H : Nat → UInt8 → Prop) (Z : Nat → Prop) : Prop where
  nrow : w.rowIs ndb 34 k (ptrs Fs Fx.nb m)
  rrow : w.rowIs rcb 36 k (ptrs Fs Fx.rb m)
  id : ∀ x, x < m → (Fs x).id = nm x
  node : ∀ x, x < m → NodeAt w (Ss x) (Fs x) Dd c (H x) (Z x)
  low : ∀ x, x < m → ∀ i, Ss x i → i < w.heap.size ∧ ¬ E i
  dis : ∀ x y, x < m → y < m → x ≠ y → ∀ i, Ss x i → ¬ Ss y i
  eN : E ndb
  eR : E rcb
  eL : ∀ i, E i → i < w.heap.size
  ne : ndb ≠ rcb

section
variable {w w' : World} {k m ndb rcb : Nat} {Fs : Nat → Fx} {Ss : Nat → Nat → Prop} {E E' : Nat → Prop} {Dd Dd' : UInt8 → Prop} {c c' : Nat} {H H' : Nat → UInt8 → Prop} {Z Z' : Nat → Prop}

theorem NodeAt.mono {S : Nat → Prop} {F : Fx} {h h' : UInt8 → Prop} {z z' : Prop} (n : NodeAt w S F Dd c h z) (hD : ∀ u, Dd u → Dd' u) (hn : ∀ u, Dd' u → IsNm u) (hc : c ≤ c') (hH : ∀ u, h' u → h u) (hZ : z' → z) : NodeAt w S F Dd' c' h' z' := by
  obtain ⟨r, ab, cap, L, Zs, ⟨N, G, pid, P, K, hi⟩, hz⟩ := n
  exact ⟨r, ab, cap, L, Zs, ⟨N, G, pid, P, K, hi.mono (fun _ e => e) hD hn hc (fun b _ hx => ⟨hx.1, fun e => hx.2.1 (hH _ e), hx.2.2⟩)⟩, fun e => hz (hZ e)⟩
theorem NodeAt.blocks {S : Nat → Prop} {F : Fx} {h : UInt8 → Prop} {z : Prop} (n : NodeAt w S F Dd c h z) (hk : ∀ k, S k → w'.heap[k]? = w.heap[k]?) : NodeAt w' S F Dd c h z := by
  obtain ⟨r, ab, cap, L, Zs, hi, hz⟩ := n
  exact ⟨r, ab, cap, L, Zs, hi.blocks hk, hz⟩

theorem Net.mono (n : Net w k m ndb rcb Fs Ss E Dd c H Z) (hD : ∀ u, Dd u → Dd' u) (hn : ∀ u, Dd' u → IsNm u) (hc : c ≤ c') (hH : ∀ x, x < m → ∀ u, H' x u → H x u) (hZ : ∀ x, x < m → Z' x → Z x) : Net w k m ndb rcb Fs Ss E Dd' c' H' Z' :=
  { n with node := fun x hx => (n.node x hx).mono hD hn hc (hH x hx) (hZ x hx) }

/-- new blocks are made, none of the old is turned -/
theorem Net.below (n : Net w k m ndb rcb Fs Ss E Dd c H Z) (hb : Below w.heap.size w w') : Net w' k m ndb rcb Fs Ss E Dd c H Z :=
  { n with
    nrow := World.rowIs.of_block n.nrow (hb.block _ (n.eL _ n.eN))
    rrow := World.rowIs.of_block n.rrow (hb.block _ (n.eL _ n.eR))
    node := fun x hx => (n.node x hx).blocks (fun i hi => hb.block i (n.low x hx i hi).1)
    low := fun x hx i hi => ⟨Nat.lt_of_lt_of_le (n.low x hx i hi).1 hb.size, (n.low x hx i hi).2⟩
    eL := fun i hi => Nat.lt_of_lt_of_le (n.eL i hi) hb.size }

/-- one more block that is none of the nodes' -/
theorem Net.more (n : Net w k m ndb rcb Fs Ss E Dd c H Z) (b : Nat) (hl : b < w.heap.size) (hb : ∀ x, x < m → ¬ Ss x b) : Net w k m ndb rcb Fs Ss (fun i => E i ∨ i = b) Dd c H Z :=
  { n with
    low := fun x hx i hi => ⟨(n.low x hx i hi).1, fun e => by
      rcases e with e | e
      · exact (n.low x hx i hi).2 e
      · exact hb x hx (by rw [← e]; exact hi)⟩
    eN := .inl n.eN
    eR := .inl n.eR
    eL := fun i hi => by
      rcases hi with e | e
      · exact n.eL i e
      · rw [e]; exact hl }
theorem Net.less (n : Net w k m ndb rcb Fs Ss E Dd c H Z) (hE : ∀ i, E' i → E i) (hN : E' ndb) (hR : E' rcb) : Net w k m ndb rcb Fs Ss E' Dd c H Z :=
  { n with
    low := fun x hx i hi => ⟨(n.low x hx i hi).1, fun e => (n.low x hx i hi).2 (hE i e)⟩
    eN := hN
    eR := hR
    eL := fun i hi => n.eL i (hE i hi) }

def upd {α : Type} (f : Nat → α) (x : Nat) (v : α) : Nat → α := fun y => if y = x then v else f y
theorem upd_same {α : Type} (f : Nat → α) (x : Nat) (v : α) : upd f x v x = v := by simp [upd]
theorem upd_other {α : Type} (f : Nat → α) (x y : Nat) (v : α) (h : y ≠ x) : upd f x v y = f y := by simp [upd, h]

/-- node x has done a step -/
theorem Net.step (n : Net w k m ndb rcb Fs Ss E Dd c H Z) {x : Nat} (hx : x < m) {r' : Int} {ab' cap' : Nat} {L' : List Nat} {h' Zs' : UInt8 → Prop} {z' : Prop} (hc : c ≤ c') (hg : NG (Ss x) w w' (Fs x) Dd c' r' ab' cap' L' (Phi (Fs x) r' h' Zs')) (hz : z' → r' = 0) :
    Net w' k m ndb rcb Fs (upd Ss x (grow (Ss x) w w')) E Dd c' (upd H x h') (upd Z x z') := by
  have ht := hg.2
  have ke : ∀ i, E i → w'.heap[i]? = w.heap[i]? := fun i hi => ht.block i (n.eL i hi) (fun e => (n.low x hx i e).2 hi)
  have hdn : ∀ u, Dd u → IsNm u := by
    obtain ⟨⟨N, G, pid, P, K, hi⟩, -⟩ := hg
    exact hi.dnm
  refine { n with
    nrow := World.rowIs.of_block n.nrow (ke _ n.eN)
    rrow := World.rowIs.of_block n.rrow (ke _ n.eR)
    node := fun y hy => ?_
    low := fun y hy i hi => ?_
    dis := fun y z hy hz' hne i hi hj => ?_
    eL := fun i hi => Nat.lt_of_lt_of_le (n.eL i hi) ht.size }
  · by_cases e : y = x
    · subst e
      rw [upd_same, upd_same, upd_same]
      exact ⟨r', ab', cap', L', Zs', hg.1, hz⟩
    · rw [upd_other _ _ _ _ e, upd_other _ _ _ _ e, upd_other _ _ _ _ e]
      exact ((n.node y hy).blocks (fun i hi => ht.block i (n.low y hy i hi).1 (n.dis y x hy hx e i hi))).mono (fun _ e => e) hdn hc (fun _ e => e) (fun e => e)
  · by_cases e : y = x
    · subst e
      rw [upd_same] at hi
      rcases hi with hi | hi
      · exact ⟨Nat.lt_of_lt_of_le (n.low y hy i hi).1 ht.size, (n.low y hy i hi).2⟩
      · exact ⟨hi.2, fun e => by have := n.eL i e; omega⟩
    · rw [upd_other _ _ _ _ e] at hi
      exact ⟨Nat.lt_of_lt_of_le (n.low y hy i hi).1 ht.size, (n.low y hy i hi).2⟩
  · by_cases e1 : y = x
    · subst e1
      have e2 : z ≠ y := fun e => hne e.symm
      rw [upd_same] at hi
      rw [upd_other _ _ _ _ e2] at hj
      rcases hi with hi | hi
      · exact n.dis y z hy hz' hne i hi hj
      · have := (n.low z hz' i hj).1; omega
    · rw [upd_other _ _ _ _ e1] at hi
      by_cases e2 : z = x
      · subst e2
        rw [upd_same] at hj
        rcases hj with hj | hj
        · exact n.dis y z hy hz' hne i hi hj
        · have := (n.low y hy i hi).1; omega
      · rw [upd_other _ _ _ _ e2] at hj
        exact n.dis y z hy hz' hne i hi hj

/-- blocks that are none of the node's stand through its step -/
theorem Net.still (n : Net w k m ndb rcb Fs Ss E Dd c H Z) {x : Nat} (hx : x < m) (ht : Touch (Ss x) w w') {i : Nat} (hi : E i) : w'.heap[i]? = w.heap[i]? := ht.block i (n.eL i hi) (fun e => (n.low x hx i e).2 hi)
end

/-! ### who runs -/

/-- the names that are no running node's at pause p -/
def DdP (cs : List Int) (k p : Nat) : UInt8 → Prop := fun u => IsNm u ∧ ∀ j, j < k → liveB cs j p = true → u ≠ nm j

theorem live_down {cs : List Int} {i p q : Nat} (h : liveB cs i q = true) (hp : p ≤ q) : liveB cs i p = true := by
  unfold liveB at *
  simp only [Bool.or_eq_true, decide_eq_true_eq] at *
  rcases h with (h | h) | h
  · exact .inl (.inl h)
  · exact .inl (.inr h)
  · exact .inr (by omega)
theorem DdP.mono {cs : List Int} {k p q : Nat} (hp : p ≤ q) {u : UInt8} (h : DdP cs k p u) : DdP cs k q u := ⟨h.1, fun j hj hl => h.2 j hj (live_down hl hp)⟩
theorem DdP.not {cs : List Int} {k p j : Nat} (hj : j < k) (hl : liveB cs j p = true) : ¬ DdP cs k p (nm j) := fun h => h.2 j hj hl rfl
theorem DdP.gone {cs : List Int} {k p j : Nat} (hj : j < k) (h : DdP cs k p (nm j)) : liveB cs j p = false := by
  cases hl : liveB cs j p with
  | false => rfl
  | true => exact absurd h (DdP.not hj hl)

/-- whom x has heard since its last query, in pause p, the nodes below i having asked -/
def sched (p i x y : Nat) : Prop := (y < i ∧ (i ≤ x ∨ x < y)) ∨ (1 ≤ p ∧ i ≤ y ∧ i ≤ x ∧ x < y)
def Sch (cs : List Int) (k p i x : Nat) : UInt8 → Prop := fun u => ∃ y, y < k ∧ u = nm y ∧ liveB cs y p = true ∧ liveB cs x p = true ∧ x ≠ y ∧ sched p i x y

theorem Sch.full {cs : List Int} {k p i : Nat} (hp : 1 ≤ p) (hk : k ≤ 5) (hl : liveB cs i p = true) {u : UInt8} (hu : IsNm u) (hne : u ≠ nm i) : Sch cs k p i i u ∨ DdP cs k p u := by
  obtain ⟨y, hy5, rfl⟩ := is_nm hu
  by_cases h : y < k ∧ liveB cs y p = true
  · have hyi : y ≠ i := fun e => hne (by rw [e])
    refine .inl ⟨y, h.1, rfl, h.2, hl, fun e => hyi e.symm, ?_⟩
    unfold sched
    omega
  · refine .inr ⟨hu, fun j hj hjl e => h ?_⟩
    have := nm_inj hy5 (by omega) e
    rw [this]; exact ⟨hj, hjl⟩
theorem Sch.skip {cs : List Int} {k p i x : Nat} (hl : liveB cs i p = false) {u : UInt8} (h : Sch cs k p (i + 1) x u) : Sch cs k p i x u := by
  obtain ⟨y, h1, h2, h3, h4, h5, h6⟩ := h
  refine ⟨y, h1, h2, h3, h4, h5, ?_⟩
  have : y ≠ i := fun e => by rw [e, hl] at h3; cases h3
  unfold sched at *
  omega
theorem Sch.self {cs : List Int} {k p i : Nat} {u : UInt8} (h : Sch cs k p (i + 1) i u) : False := by
  obtain ⟨y, h1, h2, h3, h4, h5, h6⟩ := h
  unfold sched at h6
  omega
theorem Sch.next {cs : List Int} {k p i x : Nat} {u : UInt8} (h : Sch cs k p (i + 1) x u) : Sch cs k p i x u ∨ (liveB cs x p = true ∧ u = nm i) := by
  obtain ⟨y, h1, h2, h3, h4, h5, h6⟩ := h
  by_cases e : y = i
  · exact .inr ⟨h4, by rw [h2, e]⟩
  · refine .inl ⟨y, h1, h2, h3, h4, h5, ?_⟩
    unfold sched at *
    omega
theorem Sch.pause {cs : List Int} {k p x : Nat} {u : UInt8} (h : Sch cs k (p + 1) 0 x u) : Sch cs k p k x u := by
  obtain ⟨y, h1, h2, h3, h4, h5, h6⟩ := h
  refine ⟨y, h1, h2, live_down h3 (by omega), live_down h4 (by omega), h5, ?_⟩
  unfold sched at *
  omega
end Go.Proofs.Qxb6002353a
