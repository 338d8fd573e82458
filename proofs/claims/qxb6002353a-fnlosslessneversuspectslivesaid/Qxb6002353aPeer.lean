import Derived.Test.Qxb6002353aAdd
namespace Go.Proofs.Qxb6002353a
open Go.RowKit Go.Maps

/-- the word of a node's peers, b's own hearing left open -/
def PhiP (F : Fx) (r : Int) (Hd Zs : UInt8 → Prop) (b : Nat) : Nat → UInt8 → Value → Value → Value → Prop :=
  fun b' u' a h s => (b' = F.sb → a = .int .u64 r) ∧ (b' ≠ b → Hd u' → h = .bool true) ∧ (Zs u' → s = .int .u64 0)

/-- the peer of a name is at hand -/
def PeerPost (S : Nat → Prop) (w : World) (F : Fx) (Dd : UInt8 → Prop) (c : Nat) (r : Int) (Hd Zs : UInt8 → Prop) (u : UInt8) (e : Ending) (w' : World) : Prop :=
  ∃ b ab' cap' L', e = .returned (.pointer (some ⟨b, 0, none⟩)) ∧ b ∈ L' ∧ NG S w w' F Dd c r ab' cap' L' (PhiP F r Hd Zs b) ∧ w'.cell? ⟨b, 0, none⟩ = some (.string (idb u))

def newPeer (u : UInt8) : Array Value := #[.string (idb u), .bool false, .int .u64 0, .int .u64 0, .bool false, .bool false, .bool false, .bool false, .int .u64 0, .int .u64 0, .int .u64 0, .bool false, .int .u64 0, .bool false, .bool false]

theorem newPeer_is {w : World} {pb : Nat} {u : UInt8} (h : w.rowIs pb 73 15 (fun i => (newPeer u).getD i undef)) : PeerIs w pb u (fun i => (newPeer u).getD i undef) := by
  refine ⟨h, rfl, fun i hi => ?_⟩
  match i, hi with
  | 0, _ => exact Ty.mk0 _
  | 1, _ | 4, _ | 5, _ | 6, _ | 7, _ | 11, _ | 13, _ | 14, _ => exact Ty.mkb _
  | 2, _ | 3, _ | 8, _ | 9, _ | 10, _ | 12, _ => exact Ty.mku _ (Int.le_refl _)

theorem NodeIs.lt {S : Nat → Prop} {w : World} {F : Fx} {Dd K : UInt8 → Prop} {c : Nat} {r : Int} {ab cap : Nat} {L : List Nat} {φ : Nat → UInt8 → Value → Value → Value → Prop} {N G : Nat → Value} {pid : Nat → UInt8} {P : Nat → Nat → Value} (h : NodeIs S w F Dd c r ab cap L φ N G pid P K) : w.heap.size ∉ L := fun e => by
  have := World.rowIs.lt (h.peer _ e).1.row
  omega

/-- the new peer is in its place, the list laid -/
theorem peer_done {S : Nat → Prop} {w : World} {F : Fx} {Dd K : UInt8 → Prop} {c : Nat} {r : Int} {ab cap : Nat} {L : List Nat} {Hd Zs : UInt8 → Prop} {N G : Nat → Value} {pid : Nat → UInt8} {P : Nat → Nat → Value} (h : NodeIs S w F Dd c r ab cap L (Phi F r Hd Zs) N G pid P K) {u : UInt8} (hu : IsNm u) (hno : ∀ b ∈ L, pid b ≠ u)
    {w2 w4 : World} (hpm : ∀ L' : List Nat, (∀ b, b ∈ L' ↔ b ∈ L ∨ b = w.heap.size) → PeersMap w2 F.pm L' (fun b => if b = w.heap.size then u else pid b)) (hg2 : (w.alloc (.cells (newPeer u) 73)).grownBy w2 (some F.pm))
    {i : Nat} (hi : i ≤ L.length) {ab' cap' : Nat} {G' : Nat → Value} (hr4 : w4.rowIs ab' 74 cap' G') (hc1 : L.length + 1 ≤ cap') (hc2 : cap' ≤ maxLen) (hG : ∀ j, j < L.length + 1 → G' j = ins G i (.pointer (some ⟨w.heap.size, 0, none⟩)) j)
    (hg4 : (w2.alloc (.cells #[.pointer (some ⟨w.heap.size, 0, none⟩)] 74)).grownBy w4 (some ab)) (hab : ab' = ab ∨ (w2.alloc (.cells #[.pointer (some ⟨w.heap.size, 0, none⟩)] 74)).heap.size ≤ ab') :
    ∃ L', w.heap.size ∈ L' ∧ NG S w (w4.setCell ⟨F.nb, 5, none⟩ (.slice (some ⟨ab', 0, none⟩) (L.length + 1) cap')) F Dd c r ab' cap' L' (PhiP F r Hd Zs w.heap.size) ∧ (w4.setCell ⟨F.nb, 5, none⟩ (.slice (some ⟨ab', 0, none⟩) (L.length + 1) cap')).cell? ⟨w.heap.size, 0, none⟩ = some (.string (idb u)) := by
  have z1 : (w.alloc (.cells (newPeer u) 73)).heap.size = w.heap.size + 1 := by simp
  have z2 := hg2.size
  have z3 : (w2.alloc (.cells #[.pointer (some ⟨w.heap.size, 0, none⟩)] 74)).heap.size = w2.heap.size + 1 := by simp
  have z4 := hg4.size
  have hnl := World.rowIs.lt h.nrow
  have hbl := World.rowIs.lt h.brow
  have hpl : F.pm < w.heap.size := by obtain ⟨D, a, _⟩ := h.pmap; exact a.lt
  have tn := tag_row h.nrow
  have tb := tag_row h.brow
  have tp := h.pmap.tag
  have hnb : F.nb ≠ F.pm := fun e => by rw [e, tp] at tn; cases tn
  have hba : F.nb ≠ ab := fun e => by rw [e, tb] at tn; cases tn
  have hpa : F.pm ≠ ab := fun e => by rw [e, tb] at tp; cases tp
  have k4 : ∀ k, k < w.heap.size + 1 → k ≠ F.pm → k ≠ ab → w4.heap[k]? = (w.alloc (.cells (newPeer u) 73)).heap[k]? := fun k hk e1 e2 =>
    ((hg4.block k (by omega) (by simpa using e2)).trans (Below.heap_alloc _ _ _ (by omega))).trans (hg2.block k (by omega) (by simpa using e1))
  have k5 : ∀ k, k < w.heap.size + 1 → k ≠ F.pm → k ≠ ab → k ≠ F.nb → (w4.setCell ⟨F.nb, 5, none⟩ (.slice (some ⟨ab', 0, none⟩) (L.length + 1) cap')).heap[k]? = (w.alloc (.cells (newPeer u) 73)).heap[k]? := fun k hk e1 e2 e3 =>
    (Below.heap_setCell _ _ _ _ (by exact fun e => e3 e)).trans (k4 k hk e1 e2)
  have hrN : w4.rowIs F.nb 64 24 N := World.rowIs.of_block h.nrow ((k4 _ (by omega) hnb hba).trans (Below.heap_alloc _ _ _ hnl))
  have hlen : (L.take i ++ w.heap.size :: L.drop i).length = L.length + 1 := by simp; omega
  have hmem : ∀ b, b ∈ (L.take i ++ w.heap.size :: L.drop i) ↔ b ∈ L ∨ b = w.heap.size := fun b => by
    rw [List.mem_append, List.mem_cons]
    conv => rhs; rw [← List.take_append_drop i L, List.mem_append]
    constructor
    · rintro (e | e | e)
      · exact .inl (.inl e)
      · exact .inr e
      · exact .inl (.inr e)
    · rintro ((e | e) | e)
      · exact .inl e
      · exact .inr (.inr e)
      · exact .inr (.inl e)
  have hQ : PeerIs (w4.setCell ⟨F.nb, 5, none⟩ (.slice (some ⟨ab', 0, none⟩) (L.length + 1) cap')) w.heap.size u (fun i => (newPeer u).getD i undef) :=
    newPeer_is (World.rowIs.of_block (World.rowIs_alloc w (newPeer u) 73 _ (fun j hj => by simp [Array.getD, hj])) (k5 _ (by omega) (by omega) (by omega) (by omega)))
  have hP := hpm _ hmem
  have hP' : PeersMap (w4.setCell ⟨F.nb, 5, none⟩ (.slice (some ⟨ab', 0, none⟩) (L.length + 1) cap')) F.pm (L.take i ++ w.heap.size :: L.drop i) (fun b => if b = w.heap.size then u else pid b) := by
    obtain ⟨D, a, b⟩ := hP
    refine ⟨D, map_blk a ?_, b⟩
    exact (Below.heap_setCell _ _ _ _ (by exact fun e => hnb e.symm)).trans ((hg4.block _ (by omega) (by simpa using hpa)).trans (Below.heap_alloc _ _ _ (by omega)))
  have hT : Touch S w (w4.setCell ⟨F.nb, 5, none⟩ (.slice (some ⟨ab', 0, none⟩) (L.length + 1) cap')) := by
    have t2 : Touch S w w2 := ((Touch.refl S w).alloc (.cells (newPeer u) 73)).grown hg2 (fun k e => by cases e; exact .inl h.inS.2.2.2.1)
    have t4 : Touch S w w4 := (t2.alloc (.cells #[.pointer (some ⟨w.heap.size, 0, none⟩)] 74)).grown hg4 (fun k e => by cases e; exact .inl h.inS.2.1)
    exact t4.setCell (.inl h.inS.1) _
  refine ⟨L.take i ++ w.heap.size :: L.drop i, (hmem _).2 (.inr rfl), ⟨⟨_, _, _, _, _, NodeIs.addPeer h hu hno rfl hi h.lt (fun k hk e1 e2 e3 => (k5 k (by omega) e1 e2 e3).trans (Below.heap_alloc _ _ _ hk)) ?_ ?_ hG ⟨hc1, hc2⟩ hP' hQ ?_ ?_ ?_ (Nat.le_refl _)⟩, hT⟩, ?_⟩
  · rw [hlen]; exact rowIs_put hrN 5 _
  · refine World.rowIs.of_block hr4 (Below.heap_setCell _ _ _ _ ?_)
    show ab' ≠ F.nb
    intro e
    rcases hab with e1 | e1
    · exact hba (by rw [← e, e1])
    · omega
  · exact ⟨fun e => absurd (by rw [e]; exact h.self.1) h.lt, fun e => absurd rfl e, fun _ => rfl⟩
  · exact fun b hb hx => ⟨hx.1, fun _ => hx.2.1, hx.2.2⟩
  · rcases hab with e | e
    · exact .inl e
    · exact .inr (by omega)
  · have := World.rowIs.cell hQ.row (i := 0) (by omega)
    exact this

theorem eql74 (p : Option Addr) (w : World) : (binOp .eql 74 (.pointer p) (.pointer none)).run Try.prog w = .ok (.bool p.isNone) w := by
  cases p <;> kernel_rfl

set_option maxHeartbeats 8000000 in
set_option maxRecDepth 100000 in
theorem peer_any {S : Nat → Prop} {w : World} {F : Fx} {Dd : UInt8 → Prop} {c : Nat} {r : Int} {ab cap : Nat} {L : List Nat} {Hd Zs : UInt8 → Prop} (h : NodeOK S w F Dd c r ab cap L (Phi F r Hd Zs)) {u : UInt8} (hu : IsNm u) :
    Calls Try.prog 35 #[.pointer (some ⟨F.nb, 0, none⟩), .string (idb u)] w (PeerPost S w F Dd c r Hd Zs u) := by
  have HH := hide0 h
  obtain ⟨N, G, pid, P, K, h⟩ := h
  have c4 : w.cell? ⟨F.nb, 4, none⟩ = some (.map (some F.pm)) := by rw [← h.n4]; exact World.rowIs.cell h.nrow (by omega)
  have hnl := World.rowIs.lt h.nrow
  rcases h.pmap.lookup u with ⟨b, hb, hpid, hlk⟩ | ⟨hno, hlk⟩
  · have hl0 := hlk w rfl
    have hp := h.peer b hb
    have hc0 : w.cell? ⟨b, 0, none⟩ = some (.string (idb u)) := by
      rw [← hpid, ← hp.1.p0]; exact World.rowIs.cell hp.1.row (by omega)
    have HC := hide0 hc0
    clear hlk h hp hc0
    go_enter Try.func35, Try.ntmps35
    go_wp2_with fail
    go_ret
    refine ⟨b, ab, cap, L, rfl, hb, NG.start ?_, HC.out⟩
    obtain ⟨N, G, pid, P, K, h⟩ := HH.out
    exact ⟨_, _, _, _, _, h.mono (fun _ e => e) (fun _ e => e) h.dnm (Nat.le_refl _) (fun b' hb' hx => ⟨hx.1, fun _ => hx.2.1, hx.2.2⟩)⟩
  · have h1 := h.alloc (.cells (newPeer u) 73)
    obtain ⟨w2, hup, hpm, hg2⟩ := h1.pmap.store (fun b hb => (h.peer b hb).2.1) hu hno h.lt
    have hl0 := hlk w rfl
    have z1 : (w.alloc (.cells (newPeer u) 73)).heap.size = w.heap.size + 1 := by simp
    have z2 := hg2.size
    have tn := tag_row h.nrow
    have tp := h.pmap.tag
    have tb := tag_row h.brow
    have hnb : F.nb ≠ F.pm := fun e => by rw [e, tp] at tn; cases tn
    have hba : F.nb ≠ ab := fun e => by rw [e, tb] at tn; cases tn
    have hbp : ab ≠ F.pm := fun e => by rw [e, tp] at tb; cases tb
    have hr2 : w2.rowIs F.nb 64 24 N := rowIs_kept h1.nrow hg2 (by simpa using hnb)
    have hb2 : w2.rowIs ab 74 cap G := rowIs_kept h1.brow hg2 (by simpa using hbp)
    have hn2 : ∀ b ∈ L, w2.cell? ⟨b, 0, none⟩ = some (.string (idb (pid b))) := fun b hb => by
      have hp := (h1.peer b hb).1
      rw [← hp.p0]
      exact World.rowIs.cell (rowIs_kept hp.row hg2 (by
        intro e
        have := tag_row (h.peer b hb).1.row
        rw [Option.some.inj e, tp] at this
        cases this)) (by omega)
    have c5 : w2.cell? ⟨F.nb, 5, none⟩ = some (.slice (some ⟨ab, 0, none⟩) L.length cap) := by rw [← h.n5]; exact World.rowIs.cell hr2 (by omega)
    have HS : Calls Try.prog 52 #[.slice (some ⟨ab, 0, none⟩) L.length cap, .string (idb u), .func (.func 53) #[] #[]] w2 (SrchPost L.length w2) := srch52 (fun b => idb (pid b)) (idb u) hb2 h.bptr h.bcap.1 h.l5 hn2
    have HI : Hid (∀ i : Nat, i ≤ L.length → Calls Try.prog 55 #[.slice (some ⟨ab, 0, none⟩) L.length cap, .int .i64 (i : Int), .slice (some ⟨w2.heap.size, 0, none⟩) 1 1] (w2.alloc (.cells #[.pointer (some ⟨w.heap.size, 0, none⟩)] 74)) (InsPost (w2.alloc (.cells #[.pointer (some ⟨w.heap.size, 0, none⟩)] 74)) ab L.length i G (.pointer (some ⟨w.heap.size, 0, none⟩)))) := fun i hi =>
      insert_any (World.rowIs.alloc hb2 _) hi h.bcap.1 h.bcap.2 h.l5 (fun j hj => by rw [h.bptr j hj]; rfl) (World.rowIs_alloc w2 #[.pointer (some ⟨w.heap.size, 0, none⟩)] 74 _ (fun j hj => by
        have : j = 0 := by simpa using hj
        subst this; rfl)) (by have := World.rowIs.lt hb2; omega)
    have HD := hide0 (fun (w4 : World) (i : Nat) (hi : i ≤ L.length) (ab' cap' : Nat) (G' : Nat → Value) (hr4 : w4.rowIs ab' 74 cap' G') (hc1 : L.length + 1 ≤ cap') (hc2 : cap' ≤ maxLen) (hG : ∀ j, j < L.length + 1 → G' j = ins G i (.pointer (some ⟨w.heap.size, 0, none⟩)) j) hg4 hab => peer_done h hu hno hpm hg2 hi hr4 hc1 hc2 hG hg4 hab)
    have hnl2 := World.rowIs.lt hr2
    have HR2 : Hid (∀ w4, (w2.alloc (.cells #[.pointer (some ⟨w.heap.size, 0, none⟩)] 74)).grownBy w4 (some ab) → w4.rowIs F.nb 64 24 N) := fun w4 hg4 => rowIs_kept (World.rowIs.alloc hr2 _) hg4 (by simpa using hba)
    have h5 := h.l5
    clear hlk h h1 hpm hg2 tn tp tb hr2 hb2 hn2 hno
    unfold newPeer at hup z1
    go_enter Try.func35, Try.ntmps35
    go_wp2_with (first
      | (go_at_call 52; refine HS.mono ?_; rintro e w' ⟨i, bo, rfl, hi, -, rfl⟩)
      | (go_at_call 55; refine (HI.out i hi).mono ?_; rintro e w4 ⟨ab', cap', G', rfl, hr4, hc1, hc2, hG, hg4, hab⟩; have q5 := World.rowIs.cell (HR2.out w4 hg4) (i := 5) (by omega); have qf := World.rowIs.frozen (HR2.out w4 hg4) 5; have HP := hide0 (HD.out w4 i hi ab' cap' G' hr4 hc1 hc2 hG hg4 hab); clear hr4 hG hg4 hab))
    go_ret
    obtain ⟨L', q1, q2, q3⟩ := HP.out
    exact ⟨_, _, _, L', rfl, q1, q2, q3⟩
end Go.Proofs.Qxb6002353a
