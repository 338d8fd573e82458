import Derived.Test.Qxb6002353aTake
import Derived.Test.Qxb6002353aOth
import Derived.Deep.DeepCutAuto
import Derived.Deep.CutBlock
import Derived.Deep.RegionWith
import Derived.BigQuiet
namespace Go.Proofs.Qxb6002353a
open Go.RowKit Go.Maps

/-- a message has been heard -/
def RcvPost (S : Nat → Prop) (w : World) (F : Fx) (Dd : UInt8 → Prop) (c : Nat) (r : Int) (Hd Zs : UInt8 → Prop) (e : Ending) (w' : World) : Prop :=
  e = .returned (.tuple #[]) ∧ ∃ ab' cap' L', NG S w w' F Dd (c + 6) r ab' cap' L' (Phi F r Hd Zs)

/-- the node in the midst of a message, the sender's peer at hand -/
def RX (S : Nat → Prop) (w wd : World) (F : Fx) (Dd : UInt8 → Prop) (c : Nat) (r : Int) (Hd Zs : UInt8 → Prop) (b : Nat) : Prop :=
  ∃ ab' cap' L', b ∈ L' ∧ NG S w wd F Dd c r ab' cap' L' (Phi F r Hd Zs)

theorem row_of10 (c : Array Value) : ∀ i, i < c.size → c[i]? = some (c.getD i undef) := fun i hi => by simp [Array.getD, hi]

section
variable {S : Nat → Prop} {w w1 w2 : World} {F : Fx} {Dd : UInt8 → Prop} {c c' : Nat} {r : Int} {ab cap : Nat} {L : List Nat} {Hd Zs : UInt8 → Prop} {b : Nat} {u : UInt8}

/-- the sender has been heard -/
theorem NG.heard (h : NG S w w1 F Dd c r ab cap L (PhiP F r Hd Zs b)) (hb : b ∈ L) (hc : w1.cell? ⟨b, 0, none⟩ = some (.string (idb u))) : NG S w (w1.setCell ⟨b, 4, none⟩ (.bool true)) F Dd c r ab cap L (Phi F r (fun x => Hd x ∨ x = u) Zs) := by
  obtain ⟨⟨N, G, pid, P, K, hn⟩, ht⟩ := h
  have hp := hn.peer b hb
  have hz : (w1.setCell ⟨b, 4, none⟩ (.bool true)).heap.size = w1.heap.size := by simp [World.setCell]
  have hpid : pid b = u := by
    have := World.rowIs.cell hp.1.row (i := 0) (by omega)
    rw [hc, hp.1.p0] at this
    have e := Option.some.inj this
    simp only [Value.string.injEq] at e
    have e2 : (idb u).data.toList = (idb (pid b)).data.toList := by rw [e]
    simpa [idb] using e2.symm
  have hn2 := hn.setQ (φ' := Phi F r (fun x => Hd x ∨ x = u) Zs) b hb (grownBy_setCell w1 ⟨b, 4, none⟩ (.bool true)) (hp.1.set 4 (.bool true) (by decide) (Ty.mkb true)) (by
    rw [put_other _ _ _ _ (by decide), put_same, put_other _ _ _ _ (by decide)]
    exact ⟨hp.2.2.1, fun _ => rfl, hp.2.2.2.2⟩) (fun b' hb' hne hx => ⟨hx.1, fun e => by
      rcases e with e | e
      · exact hx.2.1 hne e
      · exact absurd (hn.one hb' hb (by rw [e, hpid])) hne, hx.2.2⟩)
  exact ⟨⟨_, _, _, _, _, hn2.mono (fun i hi => grow_mono (by rw [hz]; exact Nat.le_refl _) hi) (fun _ e => e) hn.dnm (Nat.le_refl _) (fun _ _ e => e)⟩, ht.setCell (hn.inS.2.2.1 b hb) _⟩

theorem RX.step {Hd' Zs' : UInt8 → Prop} (h : RX S w w1 F Dd c r Hd Zs b) (k : ∀ ab cap L, b ∈ L → NT (grow S w w1) w1 w1 F Dd c r ab cap L (Phi F r Hd Zs) → NT (grow S w w1) w1 w2 F Dd c' r ab cap L (Phi F r Hd' Zs')) : RX S w w2 F Dd c' r Hd' Zs' b := by
  obtain ⟨ab, cap, L, hb, hn⟩ := h
  exact ⟨ab, cap, L, hb, hn.next (NG.ofNT (k ab cap L hb (NT.start hn.1)))⟩
theorem RX.setP (h : RX S w w1 F Dd c r Hd Zs b) (i : Nat) (v : Value) (hi : i ∈ [1, 2, 6, 10, 13, 14, 15, 16, 17, 18, 19, 20, 21, 22, 23]) (hv : Ty (kN i) v) : RX S w (w1.setCell ⟨F.nb, i, none⟩ v) F Dd c r Hd Zs b :=
  h.step fun _ _ _ _ k => k.setP i v hi hv
theorem RX.setL (h : RX S w w1 F Dd c r Hd Zs b) (i : Nat) (v : Value) (hi : i ∈ [1, 2, 5, 6, 7, 8, 10, 11, 12, 13, 14]) (hv : Ty (kP i) v) : RX S w (w1.setCell ⟨b, i, none⟩ v) F Dd c r Hd Zs b :=
  h.step fun _ _ _ hb k => k.setL hb i v hi hv
theorem RX.setAns (h : RX S w w1 F Dd c r Hd Zs b) (hr : 0 ≤ r) : RX S w (w1.setCell ⟨b, 3, none⟩ (.int .u64 r)) F Dd c r Hd Zs b :=
  h.step fun _ _ _ hb k => k.setAns hb r hr (fun _ _ _ _ hx => ⟨fun _ => rfl, hx.2⟩) (fun _ _ _ _ _ _ _ hx => hx)
theorem RX.drewN (h : RX S w w1 F Dd c r Hd Zs b) (q : Nat) : RX S w (w1.drewN q) F Dd c r Hd Zs b :=
  h.step fun _ _ _ _ k => k.drewN q
theorem RX.monoC (h : RX S w w1 F Dd c r Hd Zs b) (hc : c ≤ c') : RX S w w1 F Dd c' r Hd Zs b := by
  obtain ⟨ab, cap, L, hb, hn⟩ := h
  exact ⟨ab, cap, L, hb, hn.monoC hc⟩
theorem RX.ask (h : RX S w w1 F Dd c r Hd Zs b) (a : Int) (ha : 0 ≤ a) (hc : a ≤ c) : RX S w (w1.setCell ⟨F.nb, 7, none⟩ (.int .i64 a)) F Dd c r Hd Zs b :=
  h.step fun _ _ _ _ k => by
    obtain ⟨⟨N, G, pid, P, K, hn⟩, ht⟩ := k
    exact ⟨⟨_, _, _, _, _, hn.setA a ha hc⟩, ht.setCell (.inl hn.inS.1) _⟩
theorem RX.touch (h : RX S w w1 F Dd c r Hd Zs b) : Touch S w w1 := by
  obtain ⟨ab, cap, L, hb, hn⟩ := h
  exact hn.2
end

/-- the cells of a message in its box -/
def boxF (k : Int) (u : UInt8) (rd wt : Int) (su : Bool) (ho di : Int) (v7 v8 v9 : Value) : Array Value := #[.int .u8 k, .string (idb u), .int .u64 rd, .int .u64 wt, .bool su, .int .u64 ho, .int .u64 di, v7, v8, v9]

/-- back to the world that the call found -/
theorem RX.back {S : Nat → Prop} {w wd : World} {F : Fx} {Dd : UInt8 → Prop} {c : Nat} {r : Int} {Hd Zs : UInt8 → Prop} {b : Nat} {o : Obj} (h : RX (here S w) (w.alloc o) wd F Dd c r Hd Zs b) : ∃ ab cap L, NG S w wd F Dd c r ab cap L (Phi F r Hd Zs) := by
  obtain ⟨ab, cap, L, hb, hn⟩ := h
  refine ⟨ab, cap, L, hn.1.monoS fun i hi => ?_, ?_⟩
  · rcases hi with hi | hi
    · exact .inl hi.1
    · exact .inr ⟨by have := hi.1; simp at this; omega, hi.2⟩
  · exact ((Touch.refl S w).alloc o).trans' (hn.2.mono fun i hi => hi.1)

/-- what the walk reads of the sender's peer and of the node -/
theorem RX.open {S : Nat → Prop} {w wd : World} {F : Fx} {Dd : UInt8 → Prop} {c : Nat} {r : Int} {Hd Zs : UInt8 → Prop} {b : Nat} (h : RX S w wd F Dd c r Hd Zs b) :
    (∃ z, wd.cell? ⟨b, 1, none⟩ = some (.bool z)) ∧ (∃ z : Int, 0 ≤ z ∧ wd.cell? ⟨b, 2, none⟩ = some (.int .u64 z)) ∧ (∃ z : Int, 0 ≤ z ∧ wd.cell? ⟨b, 3, none⟩ = some (.int .u64 z)) ∧ (∃ z, wd.cell? ⟨b, 6, none⟩ = some (.bool z)) ∧ (∃ z, wd.cell? ⟨b, 7, none⟩ = some (.bool z)) ∧ (∃ z : Int, 0 ≤ z ∧ wd.cell? ⟨b, 8, none⟩ = some (.int .u64 z)) ∧ (∃ z : Int, 0 ≤ z ∧ wd.cell? ⟨b, 10, none⟩ = some (.int .u64 z)) ∧
    (∃ z, wd.cell? ⟨b, 11, none⟩ = some (.bool z)) ∧ (∃ z, wd.cell? ⟨b, 13, none⟩ = some (.bool z)) ∧ (∃ z, wd.cell? ⟨b, 14, none⟩ = some (.bool z)) ∧ (∀ i, wd.frozen? ⟨b, i, none⟩ = false) ∧ b < wd.heap.size ∧ b ≠ F.nb ∧ tag wd b = 74 := by
  obtain ⟨ab, cap, L, hb, ⟨⟨N, G, pid, P, K, hn⟩, -⟩⟩ := h
  have hp := (hn.peer b hb).1
  refine ⟨hp.cb 1 (by omega) rfl, hp.cu 2 (by omega) rfl, hp.cu 3 (by omega) rfl, hp.cb 6 (by omega) rfl, hp.cb 7 (by omega) rfl, hp.cu 8 (by omega) rfl, hp.cu 10 (by omega) rfl, hp.cb 11 (by omega) rfl, hp.cb 13 (by omega) rfl, hp.cb 14 (by omega) rfl, fun i => World.rowIs.frozen hp.row i, World.rowIs.lt hp.row, hn.bn hb, tag_row hp.row⟩
theorem RX.openN {S : Nat → Prop} {w wd : World} {F : Fx} {Dd : UInt8 → Prop} {c : Nat} {r : Int} {Hd Zs : UInt8 → Prop} {b : Nat} (h : RX S w wd F Dd c r Hd Zs b) :
    wd.cell? ⟨F.nb, 0, none⟩ = some (.string (idb F.id)) ∧ (∃ z, wd.cell? ⟨F.nb, 6, none⟩ = some (.int .i64 z)) ∧ (∃ a : Int, wd.cell? ⟨F.nb, 7, none⟩ = some (.int .i64 a) ∧ 0 ≤ a ∧ a ≤ c) ∧ wd.cell? ⟨F.nb, 12, none⟩ = some (.int .u64 r) ∧ (∃ z, wd.cell? ⟨F.nb, 13, none⟩ = some (.int .i64 z)) ∧ (∃ z, wd.cell? ⟨F.nb, 14, none⟩ = some (.bool z)) ∧ (∀ i, wd.frozen? ⟨F.nb, i, none⟩ = false) ∧ F.nb < wd.heap.size ∧ tag wd F.nb = 65 := by
  obtain ⟨ab, cap, L, hb, ⟨⟨N, G, pid, P, K, hn⟩, -⟩⟩ := h
  refine ⟨by rw [← hn.n0]; exact World.rowIs.cell hn.nrow (by omega), hn.ci 6 (by omega) rfl, ?_, by rw [← hn.n12]; exact World.rowIs.cell hn.nrow (by omega), hn.ci 13 (by omega) rfl, hn.cb 14 (by omega) rfl, fun i => hn.fz i, World.rowIs.lt hn.nrow, tag_row hn.nrow⟩
  obtain ⟨a, h1, h2, h3⟩ := hn.n7
  exact ⟨a, by rw [← h1]; exact World.rowIs.cell hn.nrow (by omega), h2, h3⟩

set_option maxHeartbeats 16000000 in
set_option maxRecDepth 100000 in
theorem receive_any {S T : Nat → Prop} {w : World} {F : Fx} {Dd : UInt8 → Prop} {c : Nat} {r : Int} {ab cap : Nat} {L : List Nat} {Hd Zs : UInt8 → Prop} (h : NodeOK S w F Dd c r ab cap L (Phi F r Hd Zs)) (hc : c + 6 ≤ 1000000) (hid : ¬ Dd F.id) {u : UInt8} (hu : IsNm u) (hne : u ≠ F.id) {v : Value} (hm : MsgOK T w Dd u v) (hT : ∀ k, T k → ¬ S k) :
    Calls Try.prog 19 #[.pointer (some ⟨F.nb, 0, none⟩), v] w (RcvPost S w F Dd c r (fun x => Hd x ∨ x = u) Zs) := by
  have HH := hide0 h.restrict
  obtain ⟨M, xa, rs, rfl, ⟨k, rd, wt, su, ho, di, e0, e1, e2, e3, e4, e5, e6, hk, hrd, hwt, hho, hdi⟩, hE, h8, h9, hlen, hl5, hrs, hT8, hT9⟩ := hm
  obtain ⟨xs, hx1, hx2, hx3, hx4⟩ := id hE
  obtain ⟨p7, q7, e7, -, -⟩ := entries_at hx1
  obtain ⟨p8, q8, e8, -, -⟩ := own_at h8
  obtain ⟨p9, q9, e9, -, -⟩ := own_at h9
  unfold aggOf
  rw [e0, e1, e2, e3, e4, e5, e6, e7, e8, e9]
  rw [e7] at hE
  rw [e8] at h8 hT8
  rw [e9] at h9 hT9
  have HB : Hid (∀ wd, Touch (here S w) (w.alloc (.cells (boxF k u rd wt su ho di (.slice p7 xs.length q7) (.slice p8 xa.length q8) (.slice p9 rs.length q9)) 44)) wd → wd.rowIs w.heap.size 44 10 (fun i => (boxF k u rd wt su ho di (.slice p7 xs.length q7) (.slice p8 xa.length q8) (.slice p9 rs.length q9)).getD i undef)) := fun wd ht =>
    World.rowIs.of_block (World.rowIs_alloc w _ 44 _ (row_of10 _)) (ht.block _ (by simp) (fun e => by have := e.2; omega))
  have keep : ∀ (g : Nat) (wd : World) (o : Obj), Touch (here S w) (w.alloc o) wd → T g → g < w.heap.size → wd.heap[g]? = w.heap[g]? := fun g wd o ht hg hl =>
    (ht.block g (by simp; omega) (fun e => hT g hg e.1)).trans (Below.heap_alloc _ _ _ hl)
  have blt : ∀ (v : Value) (e s n : Nat) (ys : List Value) (g : Nat), w.ownsRow 0 e s v n ys → v.ownBlock = some g → g < w.heap.size := fun v e s n ys g ho hg => by
    have := tag_own ho hg
    rcases Nat.lt_or_ge g w.heap.size with e | e
    · exact e
    · simp [tag, Array.getElem?_eq_none e] at this
  have HE7 : Hid (∀ wd o, Touch (here S w) (w.alloc o) wd → Entries (here T w) wd Dd (.slice p7 xs.length q7)) := fun wd o ht => by
    obtain ⟨ys, y1, y2, y3, y4⟩ := hE
    exact ⟨ys, own_blk y1 (fun g hg => keep g wd o ht (y4 g hg) (blt _ _ _ _ _ g y1 hg)), y2, y3, fun g hg => ⟨y4 g hg, blt _ _ _ _ _ g y1 hg⟩⟩
  have HE8 : Hid (∀ wd o, Touch (here S w) (w.alloc o) wd → wd.ownsRow 0 9 1 (.slice p8 xa.length q8) xa.length ((xa.map idb).map Value.string)) := fun wd o ht => by
    rw [List.map_map]
    exact own_blk h8 (fun g hg => keep g wd o ht (hT8 g hg) (blt _ _ _ _ _ g h8 hg))
  have HE9 : Hid (∀ wd o, Touch (here S w) (w.alloc o) wd → wd.ownsRow 0 40 1 (.slice p9 rs.length q9) rs.length (rs.map fun z => .int .u64 z)) := fun wd o ht =>
    own_blk h9 (fun g hg => keep g wd o ht (hT9 g hg) (blt _ _ _ _ _ g h9 hg))
  have HMB : Hid (∀ wd, ¬ grow (here S w) (w.alloc (.cells (boxF k u rd wt su ho di (.slice p7 xs.length q7) (.slice p8 xa.length q8) (.slice p9 rs.length q9)) 44)) wd w.heap.size) := fun wd e => by
    rcases e with e | e
    · have := e.2; omega
    · have := e.1; simp at this; omega
  have HL := hide0 hlen
  have HID := hide0 hid
  have HHD : Hid (Head u (fun i => (boxF k u rd wt su ho di (.slice p7 xs.length q7) (.slice p8 xa.length q8) (.slice p9 rs.length q9)).getD i undef)) := ⟨k, rd, wt, su, ho, di, rfl, rfl, rfl, rfl, rfl, rfl, rfl, hk, hrd, hwt, hho, hdi⟩
  have HRS := hide0 hrs
  have HTT : Hid (∀ wd i, here T w i → ¬ grow (here S w) (w.alloc (.cells (boxF k u rd wt su ho di (.slice p7 xs.length q7) (.slice p8 xa.length q8) (.slice p9 rs.length q9)) 44)) wd i) := fun wd i hi e => by
    rcases e with e | e
    · exact hT i hi.1 e.1
    · have h1 := e.1; have h2 := hi.2; simp at h1; omega
  have heq : ((idb u).toList == (idb F.id).toList) = false := by
    cases hh : ((idb u).toList == (idb F.id).toList) with
    | false => rfl
    | true =>
      have h1 := beq_iff_eq.1 hh
      rw [ByteArray.toList_eq, ByteArray.toList_eq] at h1
      simp [idb] at h1
      exact absurd h1 hne
  have HK := hide0 hk
  have HN1 : Hid (NG (here S w) (w.alloc (.cells (boxF k u rd wt su ho di (.slice p7 xs.length q7) (.slice p8 xa.length q8) (.slice p9 rs.length q9)) 44)) (w.alloc (.cells (boxF k u rd wt su ho di (.slice p7 xs.length q7) (.slice p8 xa.length q8) (.slice p9 rs.length q9)) 44)) F Dd c r ab cap L (Phi F r Hd Zs)) := NG.start (HH.out.alloc _)
  have hr0 : 0 ≤ r := by
    obtain ⟨N, G, pid, P, K, h⟩ := h
    have := h.nty 12 (by omega)
    rw [h.n12] at this
    obtain ⟨z, hz, hz0⟩ := Ty.u this
    cases hz; exact hz0
  have BACK := hide0 (fun wd c r Hd Zs b => RX.back (S := S) (w := w) (wd := wd) (F := F) (Dd := Dd) (c := c) (r := r) (Hd := Hd) (Zs := Zs) (b := b) (o := .cells (boxF k u rd wt su ho di (.slice p7 xs.length q7) (.slice p8 xa.length q8) (.slice p9 rs.length q9)) 44))
  clear h hE hx1 hx2 hx4 h8 h9 hlen hrs hT8 hT9 e0 e1 e2 e3 e4 e5 e6 e7 e8 e9 keep blt hT hid hne HH hk
  go_enter Try.func19, Try.ntmps19
  go_upto_region 1 with fail
  have HE7' : Hid (∀ wd, Touch (here S w) (w.alloc (.cells (boxF k u rd wt su ho di (.slice p7 xs.length q7) (.slice p8 xa.length q8) (.slice p9 rs.length q9)) 44)) wd → Entries (here T w) wd Dd (.slice p7 xs.length q7)) := fun wd ht => HE7.out wd _ ht
  have HE8' : Hid (∀ wd, Touch (here S w) (w.alloc (.cells (boxF k u rd wt su ho di (.slice p7 xs.length q7) (.slice p8 xa.length q8) (.slice p9 rs.length q9)) 44)) wd → wd.ownsRow 0 9 1 (.slice p8 xa.length q8) xa.length ((xa.map idb).map Value.string)) := fun wd ht => HE8.out wd _ ht
  have HE9' : Hid (∀ wd, Touch (here S w) (w.alloc (.cells (boxF k u rd wt su ho di (.slice p7 xs.length q7) (.slice p8 xa.length q8) (.slice p9 rs.length q9)) 44)) wd → wd.ownsRow 0 40 1 (.slice p9 rs.length q9) rs.length (rs.map fun z => .int .u64 z)) := fun wd ht => HE9.out wd _ ht
  clear HE7 HE8 HE9
  change Code.wp _ _ _ _ (w.alloc (.cells (boxF k u rd wt su ho di (.slice p7 xs.length q7) (.slice p8 xa.length q8) (.slice p9 rs.length q9)) 44))
  generalize w.alloc (.cells (boxF k u rd wt su ho di (.slice p7 xs.length q7) (.slice p8 xa.length q8) (.slice p9 rs.length q9)) 44) = w1 at HB HN1 BACK HE7' HE8' HE9' HMB HTT ⊢
  generalize here T w = T1 at HE7' HTT
  generalize w.heap.size = mb at HB HMB ⊢
  generalize hS1 : here S w = S1 at HB HN1 BACK HE7' HE8' HE9' HTT HMB
  clear hS1
  have hnl : F.nb < w1.heap.size ∧ w1.cell? ⟨F.nb, 0, none⟩ = some (.string (idb F.id)) := by
    obtain ⟨⟨N, G, pid, P, K, hn⟩, -⟩ := HN1.out
    exact ⟨World.rowIs.lt hn.nrow, by rw [← hn.n0]; exact World.rowIs.cell hn.nrow (by omega)⟩
  obtain ⟨hnl, c0⟩ := hnl
  have hrow := HB.out w1 (Touch.refl _ _)
  have m1 : w1.cell? ⟨mb, 1, none⟩ = some (.string (idb u)) := World.rowIs.cell hrow (i := 1) (by omega)
  have hml := World.rowIs.lt hrow
  clear hrow
  go_quiet (fail)
  have HN2 : Hid (NG S1 w1 (w1.drewN nq) F Dd c r ab cap L (Phi F r Hd Zs)) := HN1.out.drewN nq
  have m1' : (w1.drewN nq).cell? ⟨mb, 1, none⟩ = some (.string (idb u)) := m1
  have hml' : mb < (w1.drewN nq).heap.size := hml
  clear hnl c0 m1 hml HN1
  generalize w1.drewN nq = w2 at HN2 m1' hml' ⊢
  go_upto_block 0 with (go_at_call 35; refine (peer_any HN2.out.1 hu).mono ?_; rintro e w3 ⟨b, ab', cap', L', rfl, hb, hng, hc0⟩; have HR := hide0 (show RX S1 w1 (w3.setCell ⟨b, 4, none⟩ (.bool true)) F Dd c r (fun x => Hd x ∨ x = u) Zs b from ⟨ab', cap', L', hb, NG.heard (HN2.out.next hng) hb hc0⟩); have HG3 := hide0 (HN2.out.next hng); obtain ⟨⟨N3, G3, pid3, P3, K3, hn3⟩, -⟩ := hng; have hp3 := (hn3.peer b hb).1; obtain ⟨b4, d4⟩ := hp3.cb 4 (by omega) rfl; have fd4 := hp3.fz 4; have hbl3 := World.rowIs.lt hp3.row; have hr3 := HB.out w3 HG3.out.2; have m03 : w3.cell? ⟨mb, 0, none⟩ = some (.int .u8 k) := World.rowIs.cell hr3 (i := 0) (by omega); have hml3 := World.rowIs.lt hr3; have hmb3 : mb ≠ b := (fun e => by have t1 := tag_row hr3; have t2 := tag_row hp3.row; rw [e, t2] at t1; cases t1); clear hn3 hp3 hr3 hb hc0)
  clear m03 d4 fd4 hbl3 hml3 hmb3 HG3 m1' hml' HN2
  generalize w3.setCell ⟨b, 4, none⟩ (.bool true) = w4 at HR ⊢
  go_cut [110] (fun _ wd => RX S1 w1 wd F Dd (c + 6) r (fun x => Hd x ∨ x = u) Zs b)
  case first =>
    rcases HK.out with rfl | rfl
    · obtain ⟨⟨b1, d1⟩, -, -, -, -, -, -, -, -, -, fb, hbl, hbn, -⟩ := HR.out.open
      obtain ⟨-, ⟨z6, c6⟩, -, -, -, -, fn, hnl, -⟩ := HR.out.openN
      go_upto_if 30 with fail
      go_cut [40] (fun _ wd => RX S1 w1 wd F Dd c r (fun x => Hd x ∨ x = u) Zs b)
      case first =>
        as_aux_lemma =>
          cases b1
          · go_wp2_with fail
            go_meet
            case rel => exact (HR.out.setL 1 _ (by simp) (Ty.mkb _)).setP 6 _ (by simp) (Ty.mki _)
          · go_wp2_with fail
            go_meet
            case rel => exact HR.out
      case rest =>
        clear HR d1 fb hbl c6 fn hnl
        have HR := hide0 hcut
        obtain ⟨-, -, -, ⟨b6, d6⟩, -, ⟨z8, hz8, d8⟩, -, -, -, -, fb, hbl, hbn, tb⟩ := hcut.open
        have hrow := HB.out wc hcut.touch
        have m2 : wc.cell? ⟨mb, 2, none⟩ = some (.int .u64 rd) := World.rowIs.cell hrow (i := 2) (by omega)
        have hml := World.rowIs.lt hrow
        have hmb : mb ≠ b := fun e => by have t1 := tag_row hrow; rw [e, tb] at t1; cases t1
        clear hrow hcut tb
        go_upto_region 10 with fail
        have HR5 := hide0 (HR.out.setL 6 (.bool true) (by simp) (Ty.mkb _))
        clear HR d6 d8 fb hbl m2 hml hmb hbn hz8
        generalize wc.setCell ⟨b, 6, none⟩ (.bool true) = w5 at HR5 ⊢
        obtain ⟨-, -, -, -, -, ⟨z8, hz8, d8⟩, -, -, -, -, fb, hbl, hbn, tb⟩ := HR5.out.open
        have hrow := HB.out w5 HR5.out.touch
        have m2 : w5.cell? ⟨mb, 2, none⟩ = some (.int .u64 rd) := World.rowIs.cell hrow (i := 2) (by omega)
        have hml := World.rowIs.lt hrow
        clear hrow tb
        go_quiet (fail)
        have HR6 := hide0 (HR5.out.drewN nq)
        clear HR5 d8 fb hbl hbn m2 hml
        generalize w5.drewN nq = w6 at HR6 ⊢
        go_upto_if 50 with fail
        go_cut [53] (fun _ wd => RX S1 w1 wd F Dd c r (fun x => Hd x ∨ x = u) Zs b)
        case first =>
          as_aux_lemma =>
            by_cases hlt : rd < z8
            · obtain ⟨ab6, cap6, L6, hb6, hn6⟩ := HR6.out
              have HN6 := hide0 hn6
              clear hn6
              go_wp2_with (go_at_call 36; refine (again_any HN6.out.1 hb6).mono ?_; rintro e w7 ⟨rfl, hk7⟩)
              go_meet
              case rel => exact ⟨ab6, cap6, L6, hb6, HN6.out.next (NG.ofNT hk7)⟩
            · have hge : z8 ≤ rd := by omega
              clear hlt
              go_wp2_with fail
              go_meet
              case rel => exact HR6.out
        case rest =>
          clear HR6 hz8
          have HR := hide0 hcut
          obtain ⟨-, -, -, -, -, ⟨z8', hz8, d8⟩, ⟨z10, hz10, d10⟩, ⟨b11, d11⟩, -, -, fb, hbl, hbn, tb⟩ := hcut.open
          have hrow := HB.out wc hcut.touch
          have m1 : wc.cell? ⟨mb, 1, none⟩ = some (.string (idb u)) := World.rowIs.cell hrow (i := 1) (by omega)
          have m2 : wc.cell? ⟨mb, 2, none⟩ = some (.int .u64 rd) := World.rowIs.cell hrow (i := 2) (by omega)
          have m3 : wc.cell? ⟨mb, 3, none⟩ = some (.int .u64 wt) := World.rowIs.cell hrow (i := 3) (by omega)
          have m4 : wc.cell? ⟨mb, 4, none⟩ = some (.bool su) := World.rowIs.cell hrow (i := 4) (by omega)
          have m7 : wc.cell? ⟨mb, 7, none⟩ = some (.slice p7 xs.length q7) := World.rowIs.cell hrow (i := 7) (by omega)
          have hml := World.rowIs.lt hrow
          have hmb : mb ≠ b := fun e => by have t1 := tag_row hrow; rw [e, tb] at t1; cases t1
          have HR8 := hide0 (((HR.out.setL 8 (.int .u64 rd) (by simp) (Ty.mku _ hrd)).setL 10 (.int .u64 wt) (by simp) (Ty.mku _ hwt)).setL 11 (.bool su) (by simp) (Ty.mkb _))
          clear hrow hcut tb
          go_upto_region 14 with fail
          clear HR m1 m2 m3 m4 m7 hml hmb d8 d10 d11 fb hbl hbn hz8 hz10
          generalize ((wc.setCell ⟨b, 8, none⟩ (.int .u64 rd)).setCell ⟨b, 10, none⟩ (.int .u64 wt)).setCell ⟨b, 11, none⟩ (.bool su) = w8 at HR8 ⊢
          have hrow := HB.out w8 HR8.out.touch
          have m1 : w8.cell? ⟨mb, 1, none⟩ = some (.string (idb u)) := World.rowIs.cell hrow (i := 1) (by omega)
          have m7 : w8.cell? ⟨mb, 7, none⟩ = some (.slice p7 xs.length q7) := World.rowIs.cell hrow (i := 7) (by omega)
          have hml := World.rowIs.lt hrow
          obtain ⟨ab8, cap8, L8, hb8, hn8⟩ := HR8.out
          have HN8 := hide0 hn8
          have HE := hide0 (HE7'.out w8 hn8.2)
          clear hrow hn8
          go_upto_region 15 with (go_at_call 37; refine (take_any HN8.out.1 (by omega) HID.out HE.out (fun i hi => HTT.out w8 i hi) u).mono ?_; rintro e w9 ⟨rfl, hk9⟩; have HN9 := hide0 (HN8.out.next hk9); clear hk9)
          clear m1 m7 hml HN8 HE HR8
          have HR9 := hide0 (show RX S1 w1 w9 F Dd (c + 5) r (fun x => Hd x ∨ x = u) Zs b from ⟨_, _, _, hb8, HN9.out⟩)
          have HRW := hide0 (HB.out w9 HN9.out.2)
          go_cut [89] (fun s wd => ∃ bb, s = .bool bb ∧ RX S1 w1 wd F Dd (c + 5) r (fun x => Hd x ∨ x = u) Zs b)
          case first =>
            as_aux_lemma =>
              go_wp2_with (go_at_call 38; refine (other_any HN9.out.1 HRW.out HHD.out (HMB.out w9)).mono ?_; rintro e w10 ⟨bo, rfl, hg10⟩; have HR10 := hide0 (show RX S1 w1 w10 F Dd (c + 5) r (fun x => Hd x ∨ x = u) Zs b from ⟨_, _, _, hb8, HN9.out.next hg10⟩); obtain ⟨-, -, -, -, -, -, -, -, ⟨b13, d13⟩, ⟨b14, d14⟩, fb, hbl, hbn, -⟩ := HR10.out.open; clear hg10)
              all_goals go_meet
              all_goals exact ⟨_, rfl, HR10.out⟩
          case rest =>
            obtain ⟨bb, rfl, hrx⟩ := hcut
            clear HR9 HRW HN9
            have HR := hide0 hrx
            obtain ⟨-, -, -, -, -, ⟨bw, c14⟩, fn, hnl, -⟩ := hrx.openN
            clear hrx
            go_upto_if 89 with fail
            go_cut [92] (fun _ wd => RX S1 w1 wd F Dd (c + 5) r (fun x => Hd x ∨ x = u) Zs b)
            case first =>
              as_aux_lemma =>
                cases bb
                · go_wp2_with fail
                  go_meet
                  case rel => exact HR.out
                · go_wp2_with fail
                  go_meet
                  case rel => exact HR.out.setP 14 _ (by simp) (Ty.mkb _)
            case rest =>
              clear HR c14 fn hnl
              have HR := hide0 hcut
              obtain ⟨-, ⟨z2, hz2, d2⟩, -, -, -, -, -, -, -, -, fb, hbl, hbn, -⟩ := hcut.open
              obtain ⟨-, -, ⟨a7, c7, ha0, hac⟩, -, -, -, fn, hnl, -⟩ := hcut.openN
              clear hcut
              go_upto_if 97 with fail
              go_cut [104] (fun _ wd => RX S1 w1 wd F Dd (c + 6) r (fun x => Hd x ∨ x = u) Zs b)
              case first =>
                as_aux_lemma =>
                  by_cases hz : z2 = 0
                  · subst hz
                    have hw : IntKind.i64.wrap (a7 + 1) = a7 + 1 := by rw [IntKind.wrap_i64]; omega
                    go_wp2_with fail
                    go_meet
                    case rel => exact (HR.out.monoC (by omega)).ask _ (by omega) (by omega)
                  · have hzb : (z2 == 0) = false := beq_eq_false_iff_ne.2 hz
                    go_wp2_with fail
                    go_meet
                    case rel => exact HR.out.monoC (by omega)
              case rest =>
                clear HR d2 fb hbl hbn c7 fn hnl hz2
                have HR := hide0 hcut
                obtain ⟨-, ⟨z2', hz2, d2⟩, -, -, -, -, -, -, -, -, fb, hbl, hbn, -⟩ := hcut.open
                have hrow := HB.out wc hcut.touch
                have m2 : wc.cell? ⟨mb, 2, none⟩ = some (.int .u64 rd) := World.rowIs.cell hrow (i := 2) (by omega)
                have hml := World.rowIs.lt hrow
                clear hcut hrow
                go_wp2_with fail
                go_meet
                case rel => exact HR.out.setL 2 _ (by simp) (Ty.mku _ hrd)
    · have hrow := HB.out w4 HR.out.touch
      have m4 : w4.cell? ⟨mb, 4, none⟩ = some (.bool su) := World.rowIs.cell hrow (i := 4) (by omega)
      have m3 : w4.cell? ⟨mb, 3, none⟩ = some (.int .u64 wt) := World.rowIs.cell hrow (i := 3) (by omega)
      have hml := World.rowIs.lt hrow
      obtain ⟨-, -, -, -, -, -, ⟨z10, hz10, d10⟩, ⟨b11, d11⟩, -, -, fb, hbl, hbn, tb⟩ := HR.out.open
      have hmb : mb ≠ b := fun e => by have t1 := tag_row hrow; rw [e, tb] at t1; cases t1
      clear hrow tb
      go_upto_if 113 with fail
      go_cut [121] (fun _ wd => RX S1 w1 wd F Dd c r (fun x => Hd x ∨ x = u) Zs b)
      case first =>
        as_aux_lemma =>
          cases su
          · go_wp2_with fail
            go_meet
            case rel => exact HR.out
          · go_wp2_with fail
            go_meet
            case rel => exact (HR.out.setL 10 _ (by simp) (Ty.mku _ hwt)).setL 11 _ (by simp) (Ty.mkb _)
      case rest =>
        clear HR m4 m3 hml hz10 d10 d11 fb hbl hbn hmb
        have HR := hide0 hcut
        have hrow := HB.out wc hcut.touch
        have m1 : wc.cell? ⟨mb, 1, none⟩ = some (.string (idb u)) := World.rowIs.cell hrow (i := 1) (by omega)
        have m7 : wc.cell? ⟨mb, 7, none⟩ = some (.slice p7 xs.length q7) := World.rowIs.cell hrow (i := 7) (by omega)
        have hml := World.rowIs.lt hrow
        obtain ⟨ab8, cap8, L8, hb8, hn8⟩ := hcut
        have HN8 := hide0 hn8
        have HE := hide0 (HE7'.out wc hn8.2)
        clear hrow hn8
        go_wp2_with (go_at_call 37; refine (take_any HN8.out.1 (by omega) HID.out HE.out (fun i hi => HTT.out wc i hi) u).mono ?_; rintro e w9 ⟨rfl, hk9⟩; have HN9 := hide0 (HN8.out.next hk9); clear hk9)
        go_meet
        case rel => exact ⟨_, _, _, hb8, HN9.out.monoC (by omega)⟩
  case rest =>
    as_aux_lemma =>
      clear HR
      have HR := hide0 hcut
      have hrow := HB.out wc hcut.touch
      have m8 : wc.cell? ⟨mb, 8, none⟩ = some (.slice p8 xa.length q8) := World.rowIs.cell hrow (i := 8) (by omega)
      have hml := World.rowIs.lt hrow
      have HO := hide0 (HE8'.out wc hcut.touch)
      obtain ⟨c0, -, -, -, -, -, fn, hnl, -⟩ := hcut.openN
      clear hcut hrow
      go_upto_region 24 with fail
      go_cut [5, 6] (fun s t wd => ∃ (i : Nat) (bo : Bool), s = .int .i64 (i : Int) ∧ t = .bool bo ∧ i ≤ xa.length ∧ (bo = true → i < xa.length) ∧ RX S1 w1 wd F Dd (c + 6) r (fun x => Hd x ∨ x = u) Zs b)
      case first =>
        as_aux_lemma =>
          have HO' : Hid (wc.drew.ownsRow 0 9 1 (.slice p8 xa.length q8) xa.length ((xa.map idb).map Value.string)) := HO.out
          go_region_with (go_at_call 39; refine (srch39 (idb F.id) HO'.out hl5).mono ?_; rintro e w' ⟨i, bo, rfl, hi, hbo, rfl⟩)
          all_goals (try go_wp2_with fail)
          all_goals go_meet
          all_goals exact ⟨i, bo, rfl, rfl, hi, hbo, HR.out.drewN 1⟩
      case rest =>
        obtain ⟨i, bo, rfl, rfl, hi, hbo, hrx⟩ := hcut
        clear HR m8 hml HO c0 fn hnl
        have HR := hide0 hrx
        have hrow := HB.out wc hrx.touch
        have m9 : wc.cell? ⟨mb, 9, none⟩ = some (.slice p9 rs.length q9) := World.rowIs.cell hrow (i := 9) (by omega)
        have hml := World.rowIs.lt hrow
        obtain ⟨-, -, -, c12, -, -, fn, hnl, -⟩ := hrx.openN
        have h9 := HE9'.out wc hrx.touch
        obtain ⟨p9', q9', e9', hp9, hc9⟩ := own_at h9
        simp only [Value.slice.injEq, true_and] at e9'
        obtain ⟨rfl, rfl⟩ := e9'
        have HBO : Hid (bo = true → i < rs.length) := fun e => by rw [← HL.out]; exact hbo e
        have HC9 : Hid (∀ (j : Nat) (hj : j < rs.length), ∃ g, p9 = some ⟨g, 0, none⟩ ∧ g < wc.heap.size ∧ wc.cell? ⟨g, j, none⟩ = some (.int .u64 rs[j])) := fun j hj => by
          obtain ⟨g, hg⟩ := hp9 (by omega)
          have h1 := (hc9 g hg).2 j (by simpa using hj)
          rw [List.getElem_map] at h1
          exact ⟨g, hg, block_lt_of_cell h1.1, h1.1⟩
        clear hrx hrow h9 hp9 hc9 hbo
        go_upto_region 25 with fail
        go_cut [7] (fun s wd => ∃ an : Bool, s = .bool an ∧ RX S1 w1 wd F Dd (c + 6) r (fun x => Hd x ∨ x = u) Zs b)
        case first =>
          as_aux_lemma =>
            cases bo
            · clear HC9
              go_quiet (fail)
              go_wp2_with fail
              go_meet
              exact ⟨_, rfl, HR.out.drewN _⟩
            · have hil := HBO.out rfl
              obtain ⟨g, rfl, hgl, d⟩ := HC9.out i hil
              generalize rs[i] = z at d
              clear HC9
              generalize rs.length = n9 at *
              go_quiet (fail)
              go_wp2_with fail
              go_meet
              exact ⟨_, rfl, HR.out.drewN _⟩
        case rest =>
          obtain ⟨an, rfl, hrx⟩ := hcut
          clear HR m9 hml c12 fn hnl HBO HC9
          obtain ⟨ab8, cap8, L8, hb8, hn8⟩ := hrx
          have HN8 := hide0 hn8
          clear hn8
          go_upto_if 156 with (go_at_call 40; refine (confirm_any HN8.out.1 hb8 an).mono ?_; rintro e w9 ⟨rfl, hk9⟩; have HR9 := hide0 (show RX S1 w1 w9 F Dd (c + 6) r (fun x => Hd x ∨ x = u) Zs b from ⟨_, _, _, hb8, HN8.out.next (NG.ofNT hk9)⟩); clear hk9)
          cases an
          · go_wp2_with fail
            refine bodyPost_ret (results_none rfl _ _ _) rfl ?_
            exact ⟨rfl, BACK.out _ _ _ _ _ _ HR9.out⟩
          · obtain ⟨-, -, -, -, ⟨b7, d7⟩, -, -, -, -, -, fb, hbl, hbn, tb⟩ := HR9.out.open
            go_upto_region 29 with fail
            have HR10 := hide0 (HR9.out.setL 7 (.bool true) (by simp) (Ty.mkb _))
            clear HR9 d7 fb hbl hbn tb HN8
            generalize w9.setCell ⟨b, 7, none⟩ (.bool true) = w10 at HR10 ⊢
            obtain ⟨-, -, ⟨z3, hz3, d3⟩, -, -, -, -, -, -, -, fb, hbl, hbn, -⟩ := HR10.out.open
            obtain ⟨-, -, -, c12, ⟨z13, c13⟩, -, fn, hnl, -⟩ := HR10.out.openN
            go_quiet (fail)
            have HR11 := hide0 (HR10.out.drewN nq)
            clear HR10 d3 fb hbl hbn c12 c13 fn hnl
            generalize w10.drewN nq = w11 at HR11 ⊢
            obtain ⟨-, -, ⟨z3', hz3', d3⟩, -, -, -, -, -, -, -, fb, hbl, hbn, -⟩ := HR11.out.open
            obtain ⟨-, -, -, c12, ⟨z13', c13⟩, -, fn, hnl, -⟩ := HR11.out.openN
            cases hq : (z3 == r)
            · go_wp2_with fail
              first | refine bodyPost_ret (results_none rfl _ _ _) rfl ?_ | go_end0
              exact ⟨rfl, BACK.out _ _ _ _ _ _ ((HR11.out.setAns hr0).setP 13 _ (by simp) (Ty.mki _))⟩
            · go_wp2_with fail
              first | refine bodyPost_ret (results_none rfl _ _ _) rfl ?_ | go_end0
              exact ⟨rfl, BACK.out _ _ _ _ _ _ HR11.out⟩
end Go.Proofs.Qxb6002353a
