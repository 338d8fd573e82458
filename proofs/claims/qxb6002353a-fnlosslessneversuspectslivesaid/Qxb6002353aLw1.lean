/-
  WHAT EACH CALL OF THE LAW DOES TO THE NETWORK.
-/
import Derived.Test.Qxb6002353aNol
import Derived.Test.Qxb6002353aBld
import Derived.Test.Qxb6002353aRcv
import Derived.Test.Qxb6002353aSus
import Derived.Test.Qxb6002353aQry
import Derived.Test.Qxb6002353aFls
namespace Go.Proofs.Qxb6002353a
open Go.RowKit Go.Maps

structure Cx where
  w0 : World
  k : Nat
  ndb : Nat
  rcb : Nat
  Fs : Nat → Fx
  cs : List Int
  crv : Value

structure LS (X : Cx) (E : Nat → Prop) (p c : Nat) (H : Nat → UInt8 → Prop) (Z : Nat → Prop) (wr : World) (Ss : Nat → Nat → Prop) : Prop where
  net : Net wr X.k X.k X.ndb X.rcb X.Fs Ss E (DdP X.cs X.k p) c H Z
  crash : CrashIs wr X.crv X.cs
  below : Below X.w0.heap.size X.w0 wr
  k5 : X.k ≤ 5
  byte : ∀ z ∈ X.cs, 0 ≤ z ∧ z ≤ 255
  e0 : ∀ j, j < X.w0.heap.size → E j
  eC : ∀ g, X.crv.ownBlock = some g → E g

def Kp (E : Nat → Prop) (w w' : World) : Prop := ∀ j, E j → w'.heap[j]? = w.heap[j]?

/-- the network between two messages -/
def LN (X : Cx) (E : Nat → Prop) (p c : Nat) (H : Nat → UInt8 → Prop) (Z : Nat → Prop) (wr : World) : Prop := ∃ Ss, LS X E p c H Z wr Ss
/-- the network, a message of node i under way -/
def LM (X : Cx) (E : Nat → Prop) (p c : Nat) (H : Nat → UInt8 → Prop) (Z : Nat → Prop) (i : Nat) (v : Value) (wr : World) : Prop :=
  ∃ Ss, LS X E p c H Z wr Ss ∧ MsgOK (fun g => Ss i g ∧ g ≠ (X.Fs i).rb) wr (DdP X.cs X.k p) (nm i) v

section
variable {X : Cx} {E : Nat → Prop} {p c c' : Nat} {H H' : Nat → UInt8 → Prop} {Z Z' : Nat → Prop} {wr w' : World} {Ss : Nat → Nat → Prop}

theorem DdP.nm {cs : List Int} {k p : Nat} (u : UInt8) (h : DdP cs k p u) : IsNm u := h.1

theorem LS.step (l : LS X E p c H Z wr Ss) {x : Nat} (hx : x < X.k) {r' : Int} {ab' cap' : Nat} {L' : List Nat} {h' Zs' : UInt8 → Prop} {z' : Prop} (hc : c ≤ c') (hg : NG (Ss x) wr w' (X.Fs x) (DdP X.cs X.k p) c' r' ab' cap' L' (Phi (X.Fs x) r' h' Zs')) (hz : z' → r' = 0) :
    LS X E p c' (upd H x h') (upd Z x z') w' (upd Ss x (grow (Ss x) wr w')) ∧ Kp E wr w' := by
  have kp : Kp E wr w' := fun j hj => l.net.still hx hg.2 hj
  refine ⟨⟨l.net.step hx hc hg hz, l.crash.blk (fun g hgb => kp g (l.eC g hgb)), ?_, l.k5, l.byte, l.e0, l.eC⟩, kp⟩
  have hb := l.below
  exact ⟨hg.2.os.trans hb.os, hg.2.tape.trans hb.tape, hg.2.output.trans hb.output, Nat.le_trans hb.size hg.2.size, fun j hj => (kp j (l.e0 j hj)).trans (hb.block j hj)⟩

theorem LS.mono (l : LS X E p c H Z wr Ss) (hc : c ≤ c') (hH : ∀ x, x < X.k → ∀ u, H' x u → H x u) (hZ : ∀ x, x < X.k → Z' x → Z x) : LS X E p c' H' Z' wr Ss :=
  { l with net := l.net.mono (fun _ e => e) (fun _ h => h.1) hc hH hZ }
theorem LS.pause (l : LS X E p c H Z wr Ss) (hc : c ≤ c') (hH : ∀ x, x < X.k → ∀ u, H' x u → H x u) (hZ : ∀ x, x < X.k → Z' x → Z x) : LS X E (p + 1) c' H' Z' wr Ss :=
  { l with net := l.net.mono (fun _ e => e.mono (Nat.le_succ p)) (fun _ h => h.1) hc hH hZ }
theorem LN.mono (l : LN X E p c H Z wr) (hc : c ≤ c') (hH : ∀ x, x < X.k → ∀ u, H' x u → H x u) (hZ : ∀ x, x < X.k → Z' x → Z x) : LN X E p c' H' Z' wr := by
  obtain ⟨Ss, l⟩ := l; exact ⟨Ss, l.mono hc hH hZ⟩
theorem LM.mono {i : Nat} {v : Value} (l : LM X E p c H Z i v wr) (hc : c ≤ c') (hH : ∀ x, x < X.k → ∀ u, H' x u → H x u) (hZ : ∀ x, x < X.k → Z' x → Z x) : LM X E p c' H' Z' i v wr := by
  obtain ⟨Ss, l, m⟩ := l; exact ⟨Ss, l.mono hc hH hZ, m⟩
theorem LM.less {i : Nat} {v : Value} (l : LM X E p c H Z i v wr) : LN X E p c H Z wr := by
  obtain ⟨Ss, l, m⟩ := l; exact ⟨Ss, l⟩

/-- only new blocks are made -/
theorem LS.below' (l : LS X E p c H Z wr Ss) (hb : Below wr.heap.size wr w') : LS X E p c H Z w' Ss ∧ Kp E wr w' := by
  have kp : Kp E wr w' := fun j hj => hb.block j (l.net.eL j hj)
  refine ⟨{ l with net := l.net.below hb, crash := l.crash.blk (fun g hgb => kp g (l.eC g hgb)), below := ?_ }, kp⟩
  have h0 := l.below
  exact ⟨hb.os.trans h0.os, hb.tape.trans h0.tape, hb.output.trans h0.output, Nat.le_trans h0.size hb.size, fun j hj => (kp j (l.e0 j hj)).trans (h0.block j hj)⟩
theorem LN.below (l : LN X E p c H Z wr) (hb : Below wr.heap.size wr w') : LN X E p c H Z w' := by
  obtain ⟨Ss, l⟩ := l; exact ⟨Ss, (l.below' hb).1⟩
theorem LM.below {i : Nat} {v : Value} (l : LM X E p c H Z i v wr) (hi : i < X.k) (hb : Below wr.heap.size wr w') : LM X E p c H Z i v w' := by
  obtain ⟨Ss, l, m⟩ := l
  exact ⟨Ss, (l.below' hb).1, m.blocks (fun g hg => hb.block g (l.net.low i hi g hg.1).1)⟩

/-- the message's box is one of the blocks that stand -/
theorem LS.more (l : LS X E p c H Z wr Ss) (b : Nat) (hl : b < wr.heap.size) (hb : ∀ x, x < X.k → ¬ Ss x b) : LS X (fun i => E i ∨ i = b) p c H Z wr Ss :=
  { l with net := l.net.more b hl hb, e0 := fun j hj => .inl (l.e0 j hj), eC := fun g hg => .inl (l.eC g hg) }
theorem LS.fewer {b : Nat} (l : LS X (fun i => E i ∨ i = b) p c H Z wr Ss) (hN : E X.ndb) (hR : E X.rcb) (h0 : ∀ j, j < X.w0.heap.size → E j) (hC : ∀ g, X.crv.ownBlock = some g → E g) : LS X E p c H Z wr Ss :=
  { l with net := l.net.less (fun _ e => .inl e) hN hR, e0 := h0, eC := hC }

/-! ### the calls -/

def QPost (X : Cx) (E : Nat → Prop) (p c : Nat) (H : Nat → UInt8 → Prop) (Z : Nat → Prop) (i : Nat) (wr : World) (e : Ending) (w' : World) : Prop :=
  ∃ v, e = .returned v ∧ LM X E p c H Z i v w' ∧ Kp E wr w'

theorem msg_off {S : Nat → Prop} {w : World} {Dd : UInt8 → Prop} {u : UInt8} {v : Value} {rb : Nat} (h : MsgOK S w Dd u v) (ht : tag w rb = 39) : MsgOK (fun g => S g ∧ g ≠ rb) w Dd u v := by
  obtain ⟨M, xa, rs, h1, h2, ⟨xs, a1, a2, a3, a4⟩, h4, h5, h6, h7, h8, h9, h10⟩ := h
  refine ⟨M, xa, rs, h1, h2, ⟨xs, a1, a2, a3, fun g hg => ⟨a4 g hg, fun e => ?_⟩⟩, h4, h5, h6, h7, h8, fun g hg => ⟨h9 g hg, fun e => ?_⟩, fun g hg => ⟨h10 g hg, fun e => ?_⟩⟩
  · have := tag_own a1 hg; rw [e, ht] at this; cases this
  · have := tag_own h4 hg; rw [e, ht] at this; cases this
  · have := tag_own h5 hg; rw [e, ht] at this; cases this

theorem NodeOK.tagR {S : Nat → Prop} {w : World} {F : Fx} {Dd : UInt8 → Prop} {c : Nat} {r : Int} {ab cap : Nat} {L : List Nat} {φ : Nat → UInt8 → Value → Value → Value → Prop} (h : NodeOK S w F Dd c r ab cap L φ) : tag w F.rb = 39 := by
  obtain ⟨N, G, pid, P, K, h⟩ := h
  exact h.recd.tag

/-- Query, in its turn -/
theorem law_query {i : Nat} (l : LN X E p c (fun x => Sch X.cs X.k p i x) (fun x => p = 0 ∧ i ≤ x) wr) (hi : i < X.k) (hl : liveB X.cs i p = true) (hc : c + 5 ≤ 1000000) :
    Calls Try.prog 17 #[.pointer (some ⟨(X.Fs i).nb, 0, none⟩)] wr (QPost X E p (c + 5) (fun x u => x ≠ i ∧ Sch X.cs X.k p i x u) (fun x => p = 0 ∧ i + 1 ≤ x) i wr) := by
  obtain ⟨Ss, l⟩ := l
  obtain ⟨r, ab, cap, L, Zs, hn, hz⟩ := l.net.node i hi
  have hid := l.net.id i hi
  refine (query_any hn hc ?_).mono ?_
  · by_cases h0 : p = 0
    · exact .inl (hz ⟨h0, Nat.le_refl _⟩)
    · refine .inr (fun u hu hne => ?_)
      rw [hid] at hne
      exact Sch.full (by omega) l.k5 hl hu hne
  · rintro e w' ⟨v, r', rfl, hr', hg, hm⟩
    obtain ⟨l', kp⟩ := l.step hi (c' := c + 5) (z' := False) (by omega) hg (fun e => e.elim)
    refine ⟨v, rfl, ⟨_, l'.mono (Nat.le_refl _) ?_ ?_, ?_⟩, kp⟩
    · intro x _ u hu
      rw [upd_other _ _ _ _ hu.1]
      exact hu.2
    · intro x _ hx
      rw [upd_other _ _ _ _ (by omega)]
      exact ⟨hx.1, by omega⟩
    · rw [upd_same]
      rw [hid] at hm
      exact msg_off hm hg.1.tagR

def FPost (X : Cx) (E : Nat → Prop) (p c : Nat) (H : Nat → UInt8 → Prop) (Z : Nat → Prop) (i : Nat) (wr : World) (e : Ending) (w' : World) : Prop :=
  ∃ v b, e = .returned (.tuple #[v, .bool b]) ∧ LN X E p c H Z w' ∧ (b = true → LM X E p c H Z i v w') ∧ (b = false → v = .agg zz44) ∧ Kp E wr w'

/-- Flush -/
theorem law_flush {i : Nat} (l : LN X E p c H Z wr) (hi : i < X.k) (hc : c ≤ 1000000) (hZ : ∀ x, x < X.k → ¬ Z x) :
    Calls Try.prog 14 #[.pointer (some ⟨(X.Fs i).nb, 0, none⟩)] wr (FPost X E p c H Z i wr) := by
  obtain ⟨Ss, l⟩ := l
  obtain ⟨r, ab, cap, L, Zs, hn, hz⟩ := l.net.node i hi
  have hid := l.net.id i hi
  refine (flush_any hn hc).mono ?_
  rintro e w' ⟨v, b, rfl, hg, hm, hv⟩
  obtain ⟨l', kp⟩ := l.step hi (c' := c) (z' := False) (Nat.le_refl _) hg (fun e => e.elim)
  have l'' : LS X E p c H Z w' (upd Ss i (grow (Ss i) wr w')) := l'.mono (Nat.le_refl _) (fun x _ u hu => by
    by_cases e : x = i
    · subst e; rw [upd_same]; exact hu
    · rw [upd_other _ _ _ _ e]; exact hu) (fun x hx hzx => absurd hzx (hZ x hx))
  refine ⟨v, b, rfl, ⟨_, l''⟩, fun hb => ⟨_, l'', ?_⟩, hv, kp⟩
  rw [upd_same]
  have := hm hb
  rw [hid] at this
  exact msg_off this hg.1.tagR

def RPost (X : Cx) (E : Nat → Prop) (p c : Nat) (H : Nat → UInt8 → Prop) (Z : Nat → Prop) (i : Nat) (v : Value) (wr : World) (e : Ending) (w' : World) : Prop :=
  e = .returned (.tuple #[]) ∧ LM X E p c H Z i v w' ∧ Kp E wr w'

/-- Receive: node j hears node i -/
theorem law_receive {i j : Nat} {v : Value} (l : LM X E p c H Z i v wr) (hi : i < X.k) (hj : j < X.k) (hne : j ≠ i) (hl : liveB X.cs j p = true) (hc : c + 6 ≤ 1000000) :
    Calls Try.prog 19 #[.pointer (some ⟨(X.Fs j).nb, 0, none⟩), v] wr (RPost X E p (c + 6) (upd H j (fun u => H j u ∨ u = nm i)) Z i v wr) := by
  obtain ⟨Ss, l, m⟩ := l
  obtain ⟨r, ab, cap, L, Zs, hn, hz⟩ := l.net.node j hj
  have hid := l.net.id j hj
  have k5 := l.k5
  have hid' : ¬ DdP X.cs X.k p (X.Fs j).id := by rw [hid]; exact DdP.not hj hl
  have hne' : nm i ≠ (X.Fs j).id := by
    rw [hid]
    intro e
    exact hne (nm_inj (by omega) (by omega) e.symm)
  refine (receive_any hn hc hid' (nm_is (by omega)) hne' m (fun g hg hs => l.net.dis i j hi hj (fun e => hne e.symm) g hg.1 hs)).mono ?_
  rintro e w' ⟨rfl, ab', cap', L', hg⟩
  obtain ⟨l', kp⟩ := l.step hj (c' := c + 6) (z' := Z j) (by omega) hg hz
  refine ⟨rfl, ⟨_, l'.mono (Nat.le_refl _) (fun _ _ _ h => h) (fun x _ hx => ?_), ?_⟩, kp⟩
  · by_cases e : x = j
    · subst e; rw [upd_same]; exact hx
    · rw [upd_other _ _ _ _ e]; exact hx
  · rw [upd_other _ _ _ _ (fun e => hne e.symm)]
    exact m.blocks (fun g hg' => hg.2.block g (l.net.low i hi g hg'.1).1 (l.net.dis i j hi hj (fun e => hne e.symm) g hg'.1))

theorem LS.nol {Ss : Nat → Nat → Prop} (l : LS X E p c H Z wr Ss) (hn : Net w' X.k X.k X.ndb X.rcb X.Fs Ss E (DdP X.cs X.k p) c H Z) (ht : Touch (Rbs X.Fs X.k) wr w') : LS X E p c H Z w' Ss ∧ Kp E wr w' := by
  have kp : Kp E wr w' := fun j hj => ht.block j (l.net.eL j hj) (fun e => by
    obtain ⟨x, hx, rfl⟩ := e
    exact (l.net.low x hx _ (l.net.rb hx)).2 hj)
  refine ⟨{ l with net := hn, crash := l.crash.blk (fun g hgb => kp g (l.eC g hgb)), below := ?_ }, kp⟩
  have hb := l.below
  exact ⟨ht.os.trans hb.os, ht.tape.trans hb.tape, ht.output.trans hb.output, Nat.le_trans hb.size ht.size, fun j hj => (kp j (l.e0 j hj)).trans (hb.block j hj)⟩

def NPost (X : Cx) (E : Nat → Prop) (p c : Nat) (H : Nat → UInt8 → Prop) (Z : Nat → Prop) (wr : World) (e : Ending) (w' : World) : Prop :=
  e = .returned (.bool true) ∧ LN X E p c H Z w' ∧ Kp E wr w'
def NMPost (X : Cx) (E : Nat → Prop) (p c : Nat) (H : Nat → UInt8 → Prop) (Z : Nat → Prop) (i : Nat) (v : Value) (wr : World) (e : Ending) (w' : World) : Prop :=
  e = .returned (.bool true) ∧ LM X E p c H Z i v w' ∧ Kp E wr w'

theorem law_nolive (l : LN X E p c H Z wr) (hc : c ≤ 1000000) :
    Calls Try.prog 18 #[.slice (some ⟨X.rcb, 0, none⟩) X.k X.k, X.crv, .int .i64 (p : Int)] wr (NPost X E p c H Z wr) := by
  obtain ⟨Ss, l⟩ := l
  refine (nolive_any l.net l.k5 l.crash l.eC l.byte hc).mono ?_
  rintro e w' ⟨rfl, hn, ht⟩
  obtain ⟨l', kp⟩ := l.nol hn ht
  exact ⟨rfl, ⟨Ss, l'⟩, kp⟩

theorem law_noliveM {i : Nat} {v : Value} (l : LM X E p c H Z i v wr) (hi : i < X.k) (hc : c ≤ 1000000) :
    Calls Try.prog 18 #[.slice (some ⟨X.rcb, 0, none⟩) X.k X.k, X.crv, .int .i64 (p : Int)] wr (NMPost X E p c H Z i v wr) := by
  obtain ⟨Ss, l, m⟩ := l
  refine (nolive_any l.net l.k5 l.crash l.eC l.byte hc).mono ?_
  rintro e w' ⟨rfl, hn, ht⟩
  obtain ⟨l', kp⟩ := l.nol hn ht
  refine ⟨rfl, ⟨Ss, l', m.blocks (fun g hg => ht.block g (l.net.low i hi g hg.1).1 (fun e => ?_))⟩, kp⟩
  obtain ⟨x, hx, rfl⟩ := e
  by_cases ex : x = i
  · subst ex; exact hg.2 rfl
  · exact l.net.dis x i hx hi ex _ (l.net.rb hx) hg.1

/-- Suspected -/
def SPost (X : Cx) (E : Nat → Prop) (p c : Nat) (H : Nat → UInt8 → Prop) (Z : Nat → Prop) (e : Ending) (w' : World) : Prop :=
  ∃ v xs, e = .returned v ∧ w'.ownsRow 0 9 1 v xs.length (strs xs) ∧ xs.length ≤ 5 ∧ (∀ x ∈ xs, DdP X.cs X.k p x) ∧ LN X E p c H Z w'
theorem law_sus {i : Nat} (l : LN X E p c H Z wr) (hi : i < X.k) : Calls Try.prog 12 #[.pointer (some ⟨(X.Fs i).nb, 0, none⟩)] wr (SPost X E p c H Z) := by
  obtain ⟨Ss, l⟩ := l
  obtain ⟨r, ab, cap, L, Zs, hn, hz⟩ := l.net.node i hi
  refine (suspected_any hn).mono ?_
  rintro e w' ⟨v, xs, rfl, h1, h2, h3, h4⟩
  exact ⟨v, xs, rfl, own_base h1, h2, h3, Ss, (l.below' h4).1⟩

/-- the cells that the law itself reads -/
theorem LN.open (l : LN X E p c H Z wr) : wr.rowIs X.ndb 34 X.k (ptrs X.Fs Fx.nb X.k) ∧ CrashIs wr X.crv X.cs := by
  obtain ⟨Ss, l⟩ := l
  exact ⟨l.net.nrow, l.crash⟩
theorem LN.ptr (l : LN X E p c H Z wr) {i : Nat} (hi : i < X.k) : wr.cell? ⟨X.ndb, i, none⟩ = some (.pointer (some ⟨(X.Fs i).nb, 0, none⟩)) ∧ X.ndb < wr.heap.size := by
  obtain ⟨Ss, l⟩ := l
  refine ⟨?_, World.rowIs.lt l.net.nrow⟩
  rw [World.rowIs.cell l.net.nrow hi]
  simp [ptrs, hi]
theorem LN.live (l : LN X E p c H Z wr) (i q : Nat) : Calls Try.prog 16 #[X.crv, .int .i64 (i : Int), .int .i64 (q : Int)] wr (BoolIs (liveB X.cs i q) wr) := by
  obtain ⟨Ss, l⟩ := l
  exact live_any l.crash l.byte i q

/-- a message is laid in a box of its own -/
theorem LM.box {i : Nat} {v : Value} (l : LM X E p c H Z i v wr) (hi : i < X.k) (o : Obj) : LM X (fun j => E j ∨ j = wr.heap.size) p c H Z i v (wr.alloc o) := by
  obtain ⟨Ss, l, m⟩ := l
  have hb : Below wr.heap.size wr (wr.alloc o) := (Below.refl _ _).alloc (Nat.le_refl _) o
  exact ⟨Ss, (l.below' hb).1.more wr.heap.size (by simp) (fun x hx hs => by have := (l.net.low x hx _ hs).1; omega), m.blocks (fun g hg => hb.block g (l.net.low i hi g hg.1).1)⟩
theorem LN.unbox {b p0 c0 : Nat} {H0 : Nat → UInt8 → Prop} {Z0 : Nat → Prop} {w0 : World} (l0 : LN X E p0 c0 H0 Z0 w0) (l : LN X (fun j => E j ∨ j = b) p c H Z wr) : LN X E p c H Z wr := by
  obtain ⟨Ss0, l0⟩ := l0
  obtain ⟨Ss, l⟩ := l
  exact ⟨Ss, l.fewer l0.net.eN l0.net.eR l0.e0 l0.eC⟩
/-- a message in its parts -/
theorem LM.parts {i : Nat} {v : Value} (l : LM X E p c H Z i v wr) : ∃ (kd rd wt : Int) (su : Bool) (ho di : Int) (p7 p8 p9 : Option Addr) (n7 q7 n8 q8 n9 q9 : Nat), v = .agg (boxF kd (nm i) rd wt su ho di (.slice p7 n7 q7) (.slice p8 n8 q8) (.slice p9 n9 q9)) := by
  obtain ⟨Ss, l, m⟩ := l
  obtain ⟨M, xa, rs, rfl, ⟨k, rd, wt, su, ho, di, e0, e1, e2, e3, e4, e5, e6, -⟩, ⟨xs, hx1, -⟩, h8, h9, -⟩ := m
  obtain ⟨p7, q7, e7, -, -⟩ := entries_at hx1
  obtain ⟨p8, q8, e8, -, -⟩ := own_at h8
  obtain ⟨p9, q9, e9, -, -⟩ := own_at h9
  refine ⟨k, rd, wt, su, ho, di, p7, p8, p9, xs.length, q7, xa.length, q8, rs.length, q9, ?_⟩
  unfold aggOf boxF
  rw [e0, e1, e2, e3, e4, e5, e6, e7, e8, e9]
end
end Go.Proofs.Qxb6002353a
