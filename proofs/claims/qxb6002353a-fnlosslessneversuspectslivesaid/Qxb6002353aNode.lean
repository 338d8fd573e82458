/-
  ONE NODE: what its blocks hold ('NodeIs'), and how that stands while blocks are written. No walk in this text.
-/
import Derived.Test.Qxb6002353aBase
namespace Go.Proofs.Qxb6002353a
open Go.RowKit Go.Maps

/-- what a node is made of, for good: its block, its three maps, its recorder, the captured variable that leads to it, its own peer's block, its name -/
structure Fx where
  nb : Nat
  pm : Nat
  qm : Nat
  nm : Nat
  rb : Nat
  cb : Nat
  sb : Nat
  id : UInt8

def clos (cb : Nat) : Value := .func (.func 21) #[] #[.pointer (some ⟨cb, 0, none⟩)]

/-- a plain cell's kind: 1 uint64, 2 int, 3 bool; 0: told apart -/
def Ty (k : Nat) (v : Value) : Prop := (k = 1 → ∃ z, v = .int .u64 z ∧ 0 ≤ z) ∧ (k = 2 → ∃ z, v = .int .i64 z) ∧ (k = 3 → ∃ b, v = .bool b)
theorem Ty.u {v : Value} (h : Ty 1 v) : ∃ z, v = .int .u64 z ∧ 0 ≤ z := h.1 rfl
theorem Ty.i {v : Value} (h : Ty 2 v) : ∃ z, v = .int .i64 z := h.2.1 rfl
theorem Ty.b {v : Value} (h : Ty 3 v) : ∃ b, v = .bool b := h.2.2 rfl
theorem Ty.mku (z : Int) (h : 0 ≤ z) : Ty 1 (.int .u64 z) := by simp [Ty, h]
theorem wrap_nn (z : Int) : 0 ≤ IntKind.u64.wrap z := by
  simp only [IntKind.wrap_u64]
  omega
theorem Ty.mki (z : Int) : Ty 2 (.int .i64 z) := by simp [Ty]
theorem Ty.mkb (b : Bool) : Ty 3 (.bool b) := by simp [Ty]
theorem Ty.mk0 (v : Value) : Ty 0 v := by simp [Ty]

def kN (i : Nat) : Nat := [0, 2, 2, 0, 0, 0, 2, 2, 0, 0, 1, 0, 1, 2, 3, 1, 1, 1, 1, 1, 3, 3, 3, 1].getD i 0
def kP (i : Nat) : Nat := [0, 3, 1, 1, 3, 3, 3, 3, 1, 1, 1, 3, 1, 3, 3].getD i 0

/-- the cells of a row, one of them turned -/
def put (f : Nat → Value) (i : Nat) (v : Value) : Nat → Value := fun j => if j = i then v else f j
theorem put_same (f : Nat → Value) (i : Nat) (v : Value) : put f i v i = v := by simp [put]
theorem put_other (f : Nat → Value) (i j : Nat) (v : Value) (h : j ≠ i) : put f i v j = f j := by simp [put, h]
theorem rowIs_put {w : World} {b t n : Nat} {f : Nat → Value} (h : w.rowIs b t n f) (i : Nat) (v : Value) : (w.setCell ⟨b, i, none⟩ v).rowIs b t n (put f i v) := World.rowIs.set h i v

structure PeerIs (w : World) (b : Nat) (u : UInt8) (P : Nat → Value) : Prop where
  row : w.rowIs b 73 15 P
  p0 : P 0 = .string (idb u)
  ty : ∀ i, i < 15 → Ty (kP i) (P i)

/-- the cells of a list of pairs that all say 'suspected' -/
def cellsOf (xs : List (UInt8 × Int)) : List Value := xs.flatMap fun x => [.string (idb x.1), .int .u64 x.2, .bool true]

/-- a slice of pairs, each a suspicion of a node that is gone -/
def Entries (S : Nat → Prop) (w : World) (Dd : UInt8 → Prop) (v : Value) : Prop :=
  ∃ xs : List (UInt8 × Int), w.ownsRow 0 91 3 v xs.length (cellsOf xs) ∧ (∀ x ∈ xs, Dd x.1 ∧ (Lit.int .u64 x.2).wf = true) ∧ xs.length ≤ 5 ∧ ∀ g, v.ownBlock = some g → S g

def PeersMap (w : World) (pm : Nat) (L : List Nat) (pid : Nat → UInt8) : Prop :=
  ∃ D, w.ownsMap Try.prog 9 RV pm 5 D ∧ (∀ b ∈ L, ∀ z, D.atKey (.string [pid b]) z = .held (.pointer (some ⟨b, 0, none⟩))) ∧ ∀ l, Maps.has D (.string l) = true → ∃ b ∈ L, l = [pid b]

/-- the pairs: their keys are K, all gone; each is a suspicion -/
def PairsMap (w : World) (qm : Nat) (Dd K : UInt8 → Prop) : Prop :=
  ∃ D, w.ownsMap Try.prog 9 RV qm 5 D ∧ (∀ l, Maps.has D (.string l) = true → ∃ u t, l = [u] ∧ Dd u ∧ K u ∧ (Lit.int .u64 t).wf = true ∧ ∀ z, D.atKey (.string l) z = .held (.agg #[.int .u64 t, .bool true])) ∧
    ∀ u, K u → Maps.has D (.string [u]) = true

def NewsMap (w : World) (nm : Nat) (K : UInt8 → Prop) : Prop :=
  ∃ D, w.ownsMap Try.prog 9 RV nm 5 D ∧ ∀ l, Maps.has D (.string l) = true → ∃ u, l = [u] ∧ K u

/-- a recorder: whom it lists; its fresh ones are gone -/
def RecIs (S : Nat → Prop) (w : World) (rb : Nat) (Dd : UInt8 → Prop) (c : Nat) : Prop :=
  ∃ (iv fv : Value) (bad : Bool) (xi : List ByteArray) (xf : List UInt8),
    w.rowIs rb 38 3 (fun i => if i = 0 then iv else if i = 1 then .bool bad else fv) ∧ w.ownsRow 0 9 1 iv xi.length (xi.map Value.string) ∧ w.ownsRow 0 9 1 fv xf.length (xf.map fun u => .string (idb u)) ∧
    xi.length ≤ c ∧ xf.length ≤ c ∧ (∀ u ∈ xf, Dd u) ∧ (∀ g, iv.ownBlock = some g → S g) ∧ (∀ g, fv.ownBlock = some g → S g) ∧ (iv.ownBlock = none ∨ iv.ownBlock ≠ fv.ownBlock)

structure NodeIs (S : Nat → Prop) (w : World) (F : Fx) (Dd : UInt8 → Prop) (c : Nat) (r : Int) (ab cap : Nat) (L : List Nat) (φ : Nat → UInt8 → Value → Value → Value → Prop)
    (N G : Nat → Value) (pid : Nat → UInt8) (P : Nat → Nat → Value) (K : UInt8 → Prop) : Prop where
  nrow : w.rowIs F.nb 64 24 N
  n0 : N 0 = .string (idb F.id)
  n3 : N 3 = clos F.cb
  n4 : N 4 = .map (some F.pm)
  n5 : N 5 = .slice (some ⟨ab, 0, none⟩) L.length cap
  n7 : ∃ a : Int, N 7 = .int .i64 a ∧ 0 ≤ a ∧ a ≤ c
  n8 : N 8 = .map (some F.qm)
  n11 : N 11 = .map (some F.nm)
  n12 : N 12 = .int .u64 r
  nty : ∀ i, i < 24 → Ty (kN i) (N i)
  car : Entries S w Dd (N 9)
  brow : w.rowIs ab 74 cap G
  bptr : ∀ i, (h : i < L.length) → G i = .pointer (some ⟨L[i], 0, none⟩)
  bcap : L.length ≤ cap ∧ cap ≤ maxLen
  l5 : L.length ≤ 5
  lnd : L.Nodup
  peer : ∀ b, b ∈ L → PeerIs w b (pid b) (P b) ∧ IsNm (pid b) ∧ φ b (pid b) (P b 3) (P b 4) (P b 9)
  self : F.sb ∈ L ∧ pid F.sb = F.id
  dnm : ∀ u, Dd u → IsNm u
  pmap : PeersMap w F.pm L pid
  qmap : PairsMap w F.qm Dd K
  nmap : NewsMap w F.nm K
  recd : RecIs S w F.rb Dd c
  cbox : w.rowIs F.cb 36 1 (fun _ => .pointer (some ⟨F.rb, 0, none⟩))
  inS : S F.nb ∧ S ab ∧ (∀ b ∈ L, S b) ∧ S F.pm ∧ S F.qm ∧ S F.nm ∧ S F.rb ∧ S F.cb
  dif : F.pm ≠ F.qm ∧ F.pm ≠ F.nm ∧ F.qm ≠ F.nm

def NodeOK (S : Nat → Prop) (w : World) (F : Fx) (Dd : UInt8 → Prop) (c : Nat) (r : Int) (ab cap : Nat) (L : List Nat) (φ : Nat → UInt8 → Value → Value → Value → Prop) : Prop :=
  ∃ N G pid P K, NodeIs S w F Dd c r ab cap L φ N G pid P K

section kept
variable {S : Nat → Prop} {w w' : World} {row : Option Nat} {Dd K : UInt8 → Prop}

theorem Entries.kept {v : Value} (h : Entries S w Dd v) (hg : w.grownBy w' row) (hne : ∀ g, v.ownBlock = some g → some g ≠ row) : Entries S w' Dd v := by
  obtain ⟨xs, h1, h2⟩ := h
  exact ⟨xs, h1.kept hg (by cases hv : v.ownBlock with | none => exact .inl rfl | some g => exact .inr (hne g hv)), h2⟩
theorem Entries.tag {v : Value} (h : Entries S w Dd v) {g : Nat} (hg : v.ownBlock = some g) : tag w g = 92 := by
  obtain ⟨xs, h1, _⟩ := h; exact tag_own h1 hg
theorem PeersMap.kept {pm : Nat} {L : List Nat} {pid : Nat → UInt8} (h : PeersMap w pm L pid) (hg : w.grownBy w' row) (hne : some pm ≠ row) : PeersMap w' pm L pid := by
  obtain ⟨D, h1, h2⟩ := h; exact ⟨D, h1.kept hg hne, h2⟩
theorem PeersMap.tag {pm : Nat} {L : List Nat} {pid : Nat → UInt8} (h : PeersMap w pm L pid) : tag w pm = 1000 := by
  obtain ⟨D, h1, h2⟩ := h; exact tag_map h1
theorem PairsMap.kept {qm : Nat} (h : PairsMap w qm Dd K) (hg : w.grownBy w' row) (hne : some qm ≠ row) : PairsMap w' qm Dd K := by
  obtain ⟨D, h1, h2⟩ := h; exact ⟨D, h1.kept hg hne, h2⟩
theorem PairsMap.tag {qm : Nat} (h : PairsMap w qm Dd K) : tag w qm = 1000 := by
  obtain ⟨D, h1, h2⟩ := h; exact tag_map h1
theorem NewsMap.kept {nm : Nat} (h : NewsMap w nm K) (hg : w.grownBy w' row) (hne : some nm ≠ row) : NewsMap w' nm K := by
  obtain ⟨D, h1, h2⟩ := h; exact ⟨D, h1.kept hg hne, h2⟩
theorem NewsMap.tag {nm : Nat} (h : NewsMap w nm K) : tag w nm = 1000 := by
  obtain ⟨D, h1, h2⟩ := h; exact tag_map h1
theorem PeerIs.kept {b : Nat} {u : UInt8} {P : Nat → Value} (h : PeerIs w b u P) (hg : w.grownBy w' row) (hne : some b ≠ row) : PeerIs w' b u P :=
  ⟨rowIs_kept h.row hg hne, h.p0, h.ty⟩
/-- a recorder is kept while a block that is neither a recorder nor a row of strings is written -/
theorem RecIs.kept {rb c : Nat} (h : RecIs S w rb Dd c) (hg : w.grownBy w' row) (hne : ∀ k, row = some k → tag w k ≠ 39 ∧ tag w k ≠ 10) : RecIs S w' rb Dd c := by
  obtain ⟨iv, fv, bad, xi, xf, h1, h2, h3, h4⟩ := h
  have hk : ∀ (v : Value) (n : Nat) (xs : List Value), w.ownsRow 0 9 1 v n xs → w'.ownsRow 0 9 1 v n xs := fun v n xs ho =>
    ho.kept hg (by
      cases hv : v.ownBlock with
      | none => exact .inl rfl
      | some g => exact .inr (fun e => (hne g e.symm).2 (tag_own ho hv)))
  exact ⟨iv, fv, bad, xi, xf, rowIs_kept h1 hg (fun e => (hne rb e.symm).1 (tag_row h1)), hk _ _ _ h2, hk _ _ _ h3, h4⟩
theorem RecIs.far {rb c : Nat} (h : RecIs S w rb Dd c) (hS : S rb) (hg : w.grownBy w' row) (hne : ∀ k, row = some k → ¬ S k) : RecIs S w' rb Dd c := by
  obtain ⟨iv, fv, bad, xi, xf, h1, h2, h3, h4, h5, h6, h7, h8, h9⟩ := h
  have hk : ∀ (v : Value) (n : Nat) (xs : List Value), w.ownsRow 0 9 1 v n xs → (∀ g, v.ownBlock = some g → S g) → w'.ownsRow 0 9 1 v n xs := fun v n xs ho hs =>
    ho.kept hg (by
      cases hv : v.ownBlock with
      | none => exact .inl rfl
      | some g => exact .inr (fun e => hne g e.symm (hs g hv)))
  exact ⟨iv, fv, bad, xi, xf, rowIs_kept h1 hg (fun e => hne rb e.symm hS), hk _ _ _ h2 h7, hk _ _ _ h3 h8, h4, h5, h6, h7, h8, h9⟩
end kept

section node
variable {S S' : Nat → Prop} {w w' : World} {F : Fx} {Dd Dd' K : UInt8 → Prop} {c c' : Nat} {r r' : Int} {ab cap : Nat} {L : List Nat} {φ φ' : Nat → UInt8 → Value → Value → Value → Prop} {N N' G : Nat → Value} {pid : Nat → UInt8} {P : Nat → Nat → Value}

/-- blocks that are none of the node's are written, new ones made -/
theorem NodeIs.far (h : NodeIs S w F Dd c r ab cap L φ N G pid P K) {row : Option Nat} (hg : w.grownBy w' row) (hne : ∀ k, row = some k → ¬ S k) : NodeIs S w' F Dd c r ab cap L φ N G pid P K := by
  obtain ⟨s1, s2, s3, s4, s5, s6, s7, s8⟩ := h.inS
  have ne : ∀ k, S k → some k ≠ row := fun k hk e => hne k e.symm hk
  exact { h with
    nrow := rowIs_kept h.nrow hg (ne _ s1)
    car := h.car.kept hg (fun g hgv => ne g (by obtain ⟨_, _, _, _, hs⟩ := h.car; exact hs g hgv))
    brow := rowIs_kept h.brow hg (ne _ s2)
    peer := fun b hb => ⟨(h.peer b hb).1.kept hg (ne _ (s3 b hb)), (h.peer b hb).2⟩
    pmap := h.pmap.kept hg (ne _ s4)
    qmap := h.qmap.kept hg (ne _ s5)
    nmap := h.nmap.kept hg (ne _ s6)
    recd := h.recd.far s7 hg hne
    cbox := rowIs_kept h.cbox hg (ne _ s8) }

theorem NodeIs.drewN (h : NodeIs S w F Dd c r ab cap L φ N G pid P K) (q : Nat) : NodeIs S (w.drewN q) F Dd c r ab cap L φ N G pid P K := h.far (grownBy_drewN w q none) (fun k e => by cases e)
theorem NodeIs.alloc (h : NodeIs S w F Dd c r ab cap L φ N G pid P K) (o : Obj) : NodeIs S (w.alloc o) F Dd c r ab cap L φ N G pid P K := h.far (World.grownBy_alloc w o none) (fun k e => by cases e)
theorem NodeIs.below (h : NodeIs S w F Dd c r ab cap L φ N G pid P K) (hb : Below w.heap.size w w') : NodeIs S w' F Dd c r ab cap L φ N G pid P K := h.far (grownBy_below hb none) (fun k e => by cases e)

theorem Entries.mono {v : Value} (h : Entries S w Dd v) (hS : ∀ i, S i → S' i) (hD : ∀ u, Dd u → Dd' u) : Entries S' w Dd' v := by
  obtain ⟨xs, h1, h2, h3, h4⟩ := h
  exact ⟨xs, h1, fun x hx => ⟨hD _ (h2 x hx).1, (h2 x hx).2⟩, h3, fun g hg => hS g (h4 g hg)⟩
theorem RecIs.mono {rb : Nat} (h : RecIs S w rb Dd c) (hS : ∀ i, S i → S' i) (hD : ∀ u, Dd u → Dd' u) (hc : c ≤ c') : RecIs S' w rb Dd' c' := by
  obtain ⟨iv, fv, bad, xi, xf, h1, h2, h3, h4, h5, h6, h7, h8, h9⟩ := h
  exact ⟨iv, fv, bad, xi, xf, h1, h2, h3, by omega, by omega, fun u hu => hD u (h6 u hu), fun g hg => hS g (h7 g hg), fun g hg => hS g (h8 g hg), h9⟩
theorem NodeIs.mono (h : NodeIs S w F Dd c r ab cap L φ N G pid P K) (hS : ∀ i, S i → S' i) (hD : ∀ u, Dd u → Dd' u) (hn : ∀ u, Dd' u → IsNm u) (hc : c ≤ c') (hφ : ∀ b ∈ L, φ b (pid b) (P b 3) (P b 4) (P b 9) → φ' b (pid b) (P b 3) (P b 4) (P b 9)) : NodeIs S' w F Dd' c' r ab cap L φ' N G pid P K := by
  obtain ⟨s1, s2, s3, s4, s5, s6, s7, s8⟩ := h.inS
  exact { h with
    n7 := by obtain ⟨a, h1, h2, h3⟩ := h.n7; exact ⟨a, h1, h2, by omega⟩
    car := h.car.mono hS hD
    peer := fun b hb => ⟨(h.peer b hb).1, (h.peer b hb).2.1, hφ b hb (h.peer b hb).2.2⟩
    dnm := hn
    qmap := by
      obtain ⟨D, h1, h2, h3⟩ := h.qmap
      refine ⟨D, h1, fun l hl => ?_, h3⟩
      obtain ⟨u, t, a1, a2, a3⟩ := h2 l hl
      exact ⟨u, t, a1, hD u a2, a3⟩
    recd := h.recd.mono hS hD hc
    inS := ⟨hS _ s1, hS _ s2, fun b hb => hS b (s3 b hb), hS _ s4, hS _ s5, hS _ s6, hS _ s7, hS _ s8⟩ }

/-- the node's own block is written -/
theorem NodeIs.setN (h : NodeIs S w F Dd c r ab cap L φ N G pid P K) (hg : w.grownBy w' (some F.nb)) (hr : w'.rowIs F.nb 64 24 N')
    (a0 : N' 0 = N 0) (a3 : N' 3 = N 3) (a4 : N' 4 = N 4) (a5 : N' 5 = N 5) (a7 : ∃ a : Int, N' 7 = .int .i64 a ∧ 0 ≤ a ∧ a ≤ c) (a8 : N' 8 = N 8) (a9 : Entries S w' Dd (N' 9)) (a11 : N' 11 = N 11) (a12 : N' 12 = .int .u64 r')
    (aty : ∀ i, i < 24 → Ty (kN i) (N' i)) : NodeIs S w' F Dd c r' ab cap L φ N' G pid P K := by
  have t0 := tag_row h.nrow
  have ne : ∀ k, tag w k ≠ 65 → some k ≠ some F.nb := fun k hk e => by cases e; exact hk t0
  exact { h with
    nrow := hr
    n0 := a0.trans h.n0
    n3 := a3.trans h.n3
    n4 := a4.trans h.n4
    n5 := a5.trans h.n5
    n7 := a7
    n8 := a8.trans h.n8
    n11 := a11.trans h.n11
    n12 := a12
    nty := aty
    car := a9
    brow := rowIs_kept h.brow hg (ne _ (by rw [tag_row h.brow]; decide))
    peer := fun b hb => ⟨(h.peer b hb).1.kept hg (ne _ (by rw [tag_row (h.peer b hb).1.row]; decide)), (h.peer b hb).2⟩
    pmap := h.pmap.kept hg (ne _ (by rw [h.pmap.tag]; decide))
    qmap := h.qmap.kept hg (ne _ (by rw [h.qmap.tag]; decide))
    nmap := h.nmap.kept hg (ne _ (by rw [h.nmap.tag]; decide))
    recd := h.recd.kept hg (fun k e => by cases e; rw [t0]; decide)
    cbox := rowIs_kept h.cbox hg (ne _ (by rw [tag_row h.cbox]; decide)) }

/-- one of the node's plain cells is written -/
theorem NodeIs.setP (h : NodeIs S w F Dd c r ab cap L φ N G pid P K) (i : Nat) (v : Value) (hi : i ∈ [1, 2, 6, 10, 13, 14, 15, 16, 17, 18, 19, 20, 21, 22, 23]) (hv : Ty (kN i) v) :
    NodeIs S (w.setCell ⟨F.nb, i, none⟩ v) F Dd c r ab cap L φ (put N i v) G pid P K := by
  have hne : ∀ j, j ∈ [0, 3, 4, 5, 7, 8, 9, 11, 12] → j ≠ i := by
    intro j hj e
    subst e
    revert hi hj
    simp only [List.mem_cons, List.not_mem_nil, or_false]
    omega
  have g := grownBy_setCell w ⟨F.nb, i, none⟩ v
  have o : ∀ j, j ∈ [0, 3, 4, 5, 7, 8, 9, 11, 12] → put N i v j = N j := fun j hj => put_other N i j v (hne j hj)
  refine h.setN g (rowIs_put h.nrow i v) (o 0 (by simp)) (o 3 (by simp)) (o 4 (by simp)) (o 5 (by simp)) (by rw [o 7 (by simp)]; exact h.n7) (o 8 (by simp)) ?_ (o 11 (by simp)) (by rw [o 12 (by simp)]; exact h.n12) ?_
  · rw [o 9 (by simp)]
    exact h.car.kept g (fun gg hgg e => by cases e; have := h.car.tag hgg; rw [tag_row h.nrow] at this; cases this)
  · intro j hj
    by_cases e : j = i
    · subst e; rw [put_same]; exact hv
    · rw [put_other _ _ _ _ e]; exact h.nty j hj

/-- a peer's block is written -/
theorem NodeIs.setQ (h : NodeIs S w F Dd c r ab cap L φ N G pid P K) (b : Nat) (hb : b ∈ L) (hg : w.grownBy w' (some b)) {Pb : Nat → Value} (hr : PeerIs w' b (pid b) Pb) (hφ : φ' b (pid b) (Pb 3) (Pb 4) (Pb 9)) (hφ' : ∀ b', b' ∈ L → b' ≠ b → φ b' (pid b') (P b' 3) (P b' 4) (P b' 9) → φ' b' (pid b') (P b' 3) (P b' 4) (P b' 9)) :
    NodeIs S w' F Dd c r ab cap L φ' N G pid (fun b' => if b' = b then Pb else P b') K := by
  have t0 := tag_row (h.peer b hb).1.row
  have ne : ∀ k, tag w k ≠ 74 → some k ≠ some b := fun k hk e => by cases e; exact hk t0
  exact { h with
    nrow := rowIs_kept h.nrow hg (ne _ (by rw [tag_row h.nrow]; decide))
    car := h.car.kept hg (fun g hgv => ne g (by rw [h.car.tag hgv]; decide))
    brow := rowIs_kept h.brow hg (ne _ (by rw [tag_row h.brow]; decide))
    peer := fun b' hb' => by
      by_cases e : b' = b
      · subst e
        simp only
        exact ⟨hr, (h.peer b' hb').2.1, hφ⟩
      · simp only [if_neg e]
        exact ⟨(h.peer b' hb').1.kept hg (fun e' => e (by cases e'; rfl)), (h.peer b' hb').2.1, hφ' b' hb' e (h.peer b' hb').2.2⟩
    pmap := h.pmap.kept hg (ne _ (by rw [h.pmap.tag]; decide))
    qmap := h.qmap.kept hg (ne _ (by rw [h.qmap.tag]; decide))
    nmap := h.nmap.kept hg (ne _ (by rw [h.nmap.tag]; decide))
    recd := h.recd.kept hg (fun k e => by cases e; rw [t0]; decide)
    cbox := rowIs_kept h.cbox hg (ne _ (by rw [tag_row h.cbox]; decide)) }

theorem PeerIs.set {b : Nat} {u : UInt8} {Pb : Nat → Value} (h : PeerIs w b u Pb) (i : Nat) (v : Value) (hi : i ≠ 0) (hv : Ty (kP i) v) : PeerIs (w.setCell ⟨b, i, none⟩ v) b u (put Pb i v) :=
  ⟨rowIs_put h.row i v, by rw [put_other _ _ _ _ (Ne.symm hi)]; exact h.p0, fun j hj => by
    by_cases e : j = i
    · subst e; rw [put_same]; exact hv
    · rw [put_other _ _ _ _ e]; exact h.ty j hj⟩
end node
end Go.Proofs.Qxb6002353a
