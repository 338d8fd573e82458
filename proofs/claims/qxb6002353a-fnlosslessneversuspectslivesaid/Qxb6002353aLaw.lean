import Derived.Test.Qxb6002353aLw1
import Derived.Deep.DeepCutAuto
import Derived.Deep.CutBlock
import Derived.Deep.RegionWith
import Derived.BigQuiet
namespace Go.Proofs.Qxb6002353a
open Go.RowKit Go.Maps

theorem info36 : (Try.prog.info? 36).map (fun i => (i.zero, i.size, i.bytes)) = some (some (.pointer none), 1, 8) := by kernel_rfl

/-- the cells of a message, whatever it says -/
def boxG (kd : Int) (s : ByteArray) (rd wt : Int) (su : Bool) (ho di : Int) (v7 v8 v9 : Value) : Array Value := #[.int .u8 kd, .string s, .int .u64 rd, .int .u64 wt, .bool su, .int .u64 ho, .int .u64 di, v7, v8, v9]

def LawPost (w : World) (e : Ending) (w' : World) : Prop := e = .returned (.bool true) ∧ Below w.heap.size w w'

theorem u8_wf {a : Int} (h : (Lit.int .u8 a).wf = true) : 0 ≤ a ∧ a ≤ 255 := by
  have h1 : IntKind.u8.min = 0 := rfl
  have h2 : IntKind.u8.max = 255 := rfl
  simp [Lit.wf] at h
  omega

/-- the start of the loops -/
theorem LN.start {w w2 w3 w4 : World} {k ndb rcb : Nat} {Fs : Nat → Fx} {Ss : Nat → Nat → Prop} {cs : List Int} {crv : Value} (h2 : Below w.heap.size w w2) (hcr : CrashIs w2 crv cs) (hby : ∀ z ∈ cs, 0 ≤ z ∧ z ≤ 255) (e3 : w3 = w2.alloc (.cells (madeCells #[.pointer none] k) 36)) (hr : rcb = w2.heap.size)
    (hn : Net w4 k k ndb rcb Fs Ss (fun i => i < w3.heap.size ∨ i = ndb) (DdP cs k 0) 0 (fun _ => No) (fun _ => True)) (ht : Touch (fun i => i = rcb) w3 w4) (hk : k ≤ 5) :
    LN ⟨w, k, ndb, rcb, Fs, cs, crv⟩ (fun i => i < w3.heap.size ∨ i = ndb) 0 0 (fun x => Sch cs k 0 0 x) (fun x => (0 : Nat) = 0 ∧ 0 ≤ x) w4 := by
  have z3 : w3.heap.size = w2.heap.size + 1 := by rw [e3]; simp
  have k3 : ∀ j, j < w2.heap.size → w4.heap[j]? = w2.heap[j]? := fun j hj => (ht.block j (by omega) (by omega)).trans (by rw [e3]; exact Below.heap_alloc _ _ _ hj)
  have hcl : ∀ g, crv.ownBlock = some g → g < w2.heap.size := fun g hg => by
    rcases hcr with ⟨rfl, _⟩ | ⟨b, rfl, hrow, _⟩
    · simp [Value.ownBlock] at hg
    · simp [Value.ownBlock] at hg
      rw [← hg]; exact World.rowIs.lt hrow
  refine ⟨Ss, ⟨hn.mono (fun _ e => e) (fun _ e => e.1) (Nat.le_refl _) (fun x _ u hu => ?_) (fun _ _ _ => trivial), hcr.blk (fun g hg => k3 g (hcl g hg)), ?_, hk, hby, fun j hj => .inl ?_, fun g hg => .inl ?_⟩⟩
  · obtain ⟨y, h1, h2, h3, h4, h5, h6⟩ := hu
    unfold sched at h6
    omega
  · have b3 : Below w.heap.size w w3 := by rw [e3]; exact h2.alloc h2.size _
    have := h2.size
    exact ⟨ht.os.trans b3.os, ht.tape.trans b3.tape, ht.output.trans b3.output, Nat.le_trans b3.size ht.size, fun j hj => (k3 j (by have hj' : j < w.heap.size := hj; omega)).trans (h2.block j hj)⟩
  · have := h2.size
    show j < w3.heap.size
    have hj' : j < w.heap.size := hj
    omega
  · have := hcl g hg
    omega

/-- between two pauses -/
def RP (X : Cx) (E : Nat → Prop) (np : Nat) (s : Value) (wr : World) : Prop :=
  ∃ p : Nat, p ≤ np ∧ s = .int .i64 p ∧ LN X E p (400 * p) (fun x => Sch X.cs X.k p 0 x) (fun x => p = 0 ∧ 0 ≤ x) wr
/-- between two queries -/
def RQ (X : Cx) (E : Nat → Prop) (p : Nat) (s : Value) (wr : World) : Prop :=
  ∃ i : Nat, i ≤ X.k ∧ s = .int .i64 i ∧ LN X E p (400 * p + 40 * i) (fun x => Sch X.cs X.k p i x) (fun x => p = 0 ∧ i ≤ x) wr

/-- whom the nodes have heard while i's query goes round, those below j having got it -/
def HQd (X : Cx) (p i j : Nat) : Nat → UInt8 → Prop := fun x u => x ≠ i ∧ (Sch X.cs X.k p i x u ∨ (x < j ∧ liveB X.cs x p = true ∧ u = nm i))
theorem HQd.skip {X : Cx} {p i j x : Nat} {u : UInt8} (hl : liveB X.cs j p = false) (h : HQd X p i (j + 1) x u) : HQd X p i j x u := by
  obtain ⟨h1, h2 | ⟨h2, h3, h4⟩⟩ := h
  · exact ⟨h1, .inl h2⟩
  · refine ⟨h1, .inr ⟨?_, h3, h4⟩⟩
    have : x ≠ j := fun e => by rw [e, hl] at h3; cases h3
    omega
theorem HQd.self {X : Cx} {p i x : Nat} {u : UInt8} (h : HQd X p i (i + 1) x u) : HQd X p i i x u := by
  obtain ⟨h1, h2 | ⟨h2, h3, h4⟩⟩ := h
  · exact ⟨h1, .inl h2⟩
  · exact ⟨h1, .inr ⟨by omega, h3, h4⟩⟩
theorem HQd.got {X : Cx} {p i j x : Nat} {u : UInt8} (h : HQd X p i (j + 1) x u) : upd (HQd X p i j) j (fun u => HQd X p i j j u ∨ u = nm i) x u := by
  obtain ⟨h1, h2⟩ := h
  by_cases e : x = j
  · subst e
    rw [upd_same]
    rcases h2 with h2 | h2
    · exact .inl ⟨h1, .inl h2⟩
    · exact .inr h2.2.2
  · rw [upd_other _ _ _ _ e]
    refine ⟨h1, ?_⟩
    rcases h2 with h2 | ⟨h2, h3⟩
    · exact .inl h2
    · exact .inr ⟨by omega, h3⟩
theorem HQd.done {X : Cx} {p i x : Nat} (hx : x < X.k) {u : UInt8} (h : Sch X.cs X.k p (i + 1) x u) : HQd X p i X.k x u := by
  have hxi : x ≠ i := fun e => by subst e; exact h.self
  refine ⟨hxi, ?_⟩
  rcases h.next with h | ⟨h1, h2⟩
  · exact .inl h
  · exact .inr ⟨hx, h1, h2⟩

/-- a message goes round: those below j have got it -/
def RD (X : Cx) (E : Nat → Prop) (bx p i c0 : Nat) (Hd : Nat → Nat → UInt8 → Prop) (Z : Nat → Prop) (arr : Array Value) (s : Value) (wr : World) : Prop :=
  ∃ j : Nat, j ≤ X.k ∧ s = .int .i64 j ∧ LM X (fun t => E t ∨ t = bx) p (c0 + 6 * j) (Hd j) Z i (.agg arr) wr ∧ wr.rowIs bx 44 10 (fun t => arr.getD t undef)
theorem RD.start {X : Cx} {E : Nat → Prop} {bx p i c0 : Nat} {Z : Nat → Prop} {arr : Array Value} {wr : World} (hr : wr.rowIs bx 44 10 (fun t => arr.getD t undef)) (l : LM X (fun t => E t ∨ t = bx) p c0 (fun x u => x ≠ i ∧ Sch X.cs X.k p i x u) Z i (.agg arr) wr) : RD X E bx p i c0 (HQd X p i) Z arr (.int .i64 0) wr :=
  ⟨0, Nat.zero_le _, rfl, l.mono (Nat.le_refl _) (fun x _ u h => ⟨h.1, h.2.resolve_right (fun e => by omega)⟩) (fun _ _ h => h), hr⟩

/-- between two news -/
def RF (X : Cx) (E : Nat → Prop) (p : Nat) (s : Value) (wr : World) : Prop :=
  ∃ i : Nat, i ≤ X.k ∧ s = .int .i64 i ∧ LN X E p (400 * p + 200 + 40 * i) (fun x => Sch X.cs X.k p X.k x) (fun _ => False) wr
/-- behind Flush: where b, a message is under way -/
structure LB (X : Cx) (E : Nat → Prop) (p c : Nat) (H : Nat → UInt8 → Prop) (Z : Nat → Prop) (i : Nat) (v : Value) (b : Bool) (wr : World) : Prop where
  ln : LN X E p c H Z wr
  lm : b = true → LM X E p c H Z i v wr
theorem LN.box {X : Cx} {E : Nat → Prop} {p c : Nat} {H : Nat → UInt8 → Prop} {Z : Nat → Prop} {wr : World} (l : LN X E p c H Z wr) (o : Obj) : LN X (fun j => E j ∨ j = wr.heap.size) p c H Z (wr.alloc o) := by
  obtain ⟨Ss, l⟩ := l
  have hb : Below wr.heap.size wr (wr.alloc o) := (Below.refl _ _).alloc (Nat.le_refl _) o
  exact ⟨Ss, (l.below' hb).1.more wr.heap.size (by simp) (fun x hx hs => by have := (l.net.low x hx _ hs).1; omega)⟩
theorem LB.box {X : Cx} {E : Nat → Prop} {p c : Nat} {H : Nat → UInt8 → Prop} {Z : Nat → Prop} {i : Nat} {v : Value} {b : Bool} {wr : World} (l : LB X E p c H Z i v b wr) (hi : i < X.k) (o : Obj) : LB X (fun j => E j ∨ j = wr.heap.size) p c H Z i v b (wr.alloc o) :=
  ⟨l.ln.box o, fun e => (l.lm e).box hi o⟩
def NBPost (X : Cx) (E : Nat → Prop) (p c : Nat) (H : Nat → UInt8 → Prop) (Z : Nat → Prop) (i : Nat) (v : Value) (b : Bool) (wr : World) (e : Ending) (w' : World) : Prop :=
  e = .returned (.bool true) ∧ LB X E p c H Z i v b w' ∧ Kp E wr w'
theorem law_noliveB {X : Cx} {E : Nat → Prop} {p c : Nat} {H : Nat → UInt8 → Prop} {Z : Nat → Prop} {i : Nat} {v : Value} {b : Bool} {wr : World} (l : LB X E p c H Z i v b wr) (hi : i < X.k) (hc : c ≤ 1000000) :
    Calls Try.prog 18 #[.slice (some ⟨X.rcb, 0, none⟩) X.k X.k, X.crv, .int .i64 (p : Int)] wr (NBPost X E p c H Z i v b wr) := by
  cases b
  · refine (law_nolive l.ln hc).mono ?_
    rintro e w' ⟨rfl, h1, h2⟩
    exact ⟨rfl, ⟨h1, fun e => by cases e⟩, h2⟩
  · refine (law_noliveM (l.lm rfl) hi hc).mono ?_
    rintro e w' ⟨rfl, h1, h2⟩
    exact ⟨rfl, ⟨h1.less, fun _ => h1⟩, h2⟩
theorem flush_parts {X : Cx} {E : Nat → Prop} {p c : Nat} {H : Nat → UInt8 → Prop} {Z : Nat → Prop} {i : Nat} {v : Value} {b : Bool} {wr : World} (h1 : b = true → LM X E p c H Z i v wr) (h2 : b = false → v = .agg zz44) : ∃ (kd : Int) (s : ByteArray) (rd wt : Int) (su : Bool) (ho di : Int) (p7 p8 p9 : Option Addr) (n7 q7 n8 q8 n9 q9 : Nat), v = .agg (boxG kd s rd wt su ho di (.slice p7 n7 q7) (.slice p8 n8 q8) (.slice p9 n9 q9)) := by
  cases b
  · exact ⟨0, ByteArray.empty, 0, 0, false, 0, 0, none, none, none, 0, 0, 0, 0, 0, 0, h2 rfl⟩
  · obtain ⟨kd, rd, wt, su, ho, di, p7, p8, p9, n7, q7, n8, q8, n9, q9, e⟩ := (h1 rfl).parts
    exact ⟨kd, idb (nm i), rd, wt, su, ho, di, p7, p8, p9, n7, q7, n8, q8, n9, q9, e⟩
theorem upd_more {H : Nat → UInt8 → Prop} {j x : Nat} {u : UInt8} {Q : UInt8 → Prop} (h : H x u) : upd H j (fun u => H j u ∨ Q u) x u := by
  by_cases e : x = j
  · subst e; rw [upd_same]; exact .inl h
  · rw [upd_other _ _ _ _ e]; exact h
theorem RD.startF {X : Cx} {E : Nat → Prop} {bx p i c0 : Nat} {H : Nat → UInt8 → Prop} {Z : Nat → Prop} {arr : Array Value} {wr : World} (hr : wr.rowIs bx 44 10 (fun t => arr.getD t undef)) (l : LM X (fun t => E t ∨ t = bx) p c0 H Z i (.agg arr) wr) : RD X E bx p i c0 (fun _ => H) Z arr (.int .i64 0) wr :=
  ⟨0, Nat.zero_le _, rfl, l, hr⟩

/-- between two looks -/
def RS (X : Cx) (E : Nat → Prop) (p : Nat) (s : Value) (wr : World) : Prop :=
  ∃ i : Nat, i ≤ X.k ∧ s = .int .i64 i ∧ LN X E p (400 * p + 400) (fun x => Sch X.cs X.k p X.k x) (fun _ => False) wr
theorem sus_cells {w : World} {pv : Option Addr} {cv : Nat} {xs : List UInt8} {Q : UInt8 → Prop} (hp : 0 < xs.length → ∃ g, pv = some ⟨g, 0, none⟩) (hc : ∀ g, pv = some ⟨g, 0, none⟩ → (Value.slice pv xs.length cv).ownBlock = some g ∧ ∀ i, (hi : i < (strs xs).length) → w.cell? ⟨g, i, none⟩ = some (strs xs)[i] ∧ w.frozen? ⟨g, i, none⟩ = false) (hQ : ∀ x ∈ xs, Q x) :
    ∀ j, j < xs.length → ∃ g u, pv = some ⟨g, 0, none⟩ ∧ g < w.heap.size ∧ w.cell? ⟨g, j, none⟩ = some (.string (idb u)) ∧ Q u := fun j hj => by
  obtain ⟨g, hg⟩ := hp (by omega)
  have q := ((hc g hg).2 j (by simpa [strs] using hj)).1
  simp only [strs, List.getElem_map] at q
  exact ⟨g, _, hg, block_lt_of_cell q, q, hQ _ (List.getElem_mem hj)⟩

set_option maxHeartbeats 16000000 in
set_option maxRecDepth 100000 in
theorem law_any (a0 a1 a3 a4 : Int) {w : World} {a2 : Option Addr} {len2 cap2 : Nat} {z2 : List Int} (w0 : 0 ≤ a0 ∧ a0 ≤ 255) (w1 : 0 ≤ a1 ∧ a1 ≤ 255) (w2 : BytesIn w a2 len2 cap2 z2) :
    Calls Try.prog 5 #[.int .u8 a0, .int .u8 a1, .slice a2 len2 cap2, .int .u8 a3, .int .i8 a4] w (LawPost w) := by
  by_cases h64 : len2 ≤ 64
  case neg =>
    have hgt : 64 < len2 := by omega
    clear w2 h64
    by_cases hb : len2 ≤ 1048576
    · go_enter Try.func5, Try.ntmps5
      go_upto_if 32 with (go_at_call 15; refine (zz_any a0 a1 a3 a4 a2 len2 cap2 _).mono ?_; rintro e w' ⟨b, rfl, rfl⟩)
      cases b
      all_goals
        go_wp2_with fail
        go_ret
        exact ⟨rfl, Below.refl _ _⟩
    · have hb' : 1048576 < len2 := by omega
      go_enter Try.func5, Try.ntmps5
      go_upto_if 32 with (go_at_call 15; refine (zz_any a0 a1 a3 a4 a2 len2 cap2 _).mono ?_; rintro e w' ⟨b, rfl, rfl⟩)
      cases b
      all_goals
        go_wp2_with fail
        go_ret
        exact ⟨rfl, Below.refl _ _⟩
  case pos =>
    go_enter Try.func5, Try.ntmps5
    go_upto_if 32 with (go_at_call 15; refine (zz_any a0 a1 a3 a4 a2 len2 cap2 _).mono ?_; rintro e w' ⟨b, rfl, rfl⟩)
    cases b
    · go_wp2_with fail
      go_ret
      exact ⟨rfl, Below.refl _ _⟩
    · by_cases hbad : a0 = 0 ∨ 5 < a0 ∨ 48 < a1
      · have hcase : a0 = 0 ∨ (a0 ≠ 0 ∧ 5 < a0) ∨ (a0 ≠ 0 ∧ a0 ≤ 5 ∧ 48 < a1) := by omega
        clear hbad w2
        rcases hcase with rfl | ⟨h1, h2⟩ | ⟨h1, h2, h3⟩
        · go_wp2_with fail
          go_ret
          exact ⟨rfl, Below.refl _ _⟩
        · have hb : (a0 == 0) = false := beq_eq_false_iff_ne.2 h1
          go_wp2_with fail
          go_ret
          exact ⟨rfl, Below.refl _ _⟩
        · have hb : (a0 == 0) = false := beq_eq_false_iff_ne.2 h1
          go_wp2_with fail
          go_ret
          exact ⟨rfl, Below.refl _ _⟩
      · obtain ⟨k, rfl, hk1, hk5⟩ : ∃ k : Nat, a0 = (k : Int) ∧ 1 ≤ k ∧ k ≤ 5 := ⟨a0.toNat, by omega, by omega, by omega⟩
        obtain ⟨np, rfl, hnp⟩ : ∃ np : Nat, a1 = (np : Int) ∧ np ≤ 48 := ⟨a1.toNat, by omega, by omega⟩
        have hb : ((k : Int) == 0) = false := beq_eq_false_iff_ne.2 (by omega)
        have hmk : ∀ w : World, (Instr.makeSlice 26 (.int .i64 (k : Int)) (.int .i64 (k : Int))).run Try.prog w = .ok (.slice (some ⟨w.heap.size, 0, none⟩) k k) (w.alloc (.cells (madeCells #[.pointer none] k) 36)) :=
          fun w => run_make_row' 26 36 _ 8 Try.underlying26 info36 rfl .i64 .i64 k (by omega) (by omega) w
        have HB2 := hide0 w2
        clear hbad w0 w1 w2
        go_upto_region 13 with (first
          | (go_at_call 7; refine (clone_any HB2.out h64).mono ?_; rintro e wc2 ⟨crv, cs, rfl, hcr, hby, hbel2⟩; have HCR := hide0 hcr; have HBY := hide0 hby; have HBEL := hide0 hbel2; clear hcr hby hbel2)
          | (go_at_call 8; refine (build_any (Dd := DdP cs k 0) hk5 (fun _ e => e.1) _ _ (World.rowIs_made wc2 _ k 36)).mono ?_; rintro e w4 ⟨ndb, Fs, Ss, rfl, hnd, hn, ht⟩; have HL := hide0 (LN.start HBEL.out HCR.out HBY.out rfl rfl hn ht hk5); clear hn ht))
        obtain ⟨E, hE⟩ : ∃ E : Nat → Prop, E = (fun i => i < (wc2.alloc (.cells (madeCells #[.pointer none] k) 36)).heap.size ∨ i = ndb) := ⟨_, rfl⟩
        rw [← hE] at HL
        obtain ⟨X, rfl, rfl, rfl, e4, rfl, rfl, rfl⟩ : ∃ X : Cx, X.w0 = w' ∧ X.k = k ∧ X.ndb = ndb ∧ X.rcb = wc2.heap.size ∧ X.Fs = Fs ∧ X.cs = cs ∧ X.crv = crv := ⟨⟨w', k, ndb, wc2.heap.size, Fs, cs, crv⟩, rfl, rfl, rfl, rfl, rfl, rfl, rfl⟩
        have HX : Hid (RP X E np (.int .i64 ((0 : Nat) : Int)) w4) := by
          have := HL.out
          rw [← e4] at this
          obtain ⟨Ss, l⟩ := this
          exact ⟨0, Nat.zero_le _, rfl, Ss, l.mono (Nat.le_refl _) (fun _ _ _ h => h) (fun x _ h => ⟨trivial, h.2⟩)⟩
        rw [← e4]
        clear HL hE hnd e4 HB2 HCR HBY HBEL hmk hb
        go_wp2_with fail
        go_loopw [14] (fun s wr => RP X E np s wr) (fun s _ => np - (intOf s).toNat)
        case atStart => exact HX.out
        case round =>
          obtain ⟨p, hp, rfl, hl⟩ := hrel
          have HL := hide0 hl
          clear HX hl
          by_cases hlt : p < np
          · go_upto_block 2 with fail
            go_cut [15] (fun _ wd => LN X E p (400 * p + 200) (fun x => Sch X.cs X.k p X.k x) (fun _ => False) wd)
            case first =>
              as_aux_lemma =>
                go_wp2_with fail
                go_loopw [15] (fun s wr => RQ X E p s wr) (fun s _ => X.k - (intOf s).toNat)
                case atStart => exact ⟨0, Nat.zero_le _, rfl, HL.out⟩
                case round =>
                  obtain ⟨i, hi, rfl, hl⟩ := hrel
                  have HQ := hide0 hl
                  clear hl HL
                  by_cases hik : i < X.k
                  · obtain ⟨d1, dl⟩ := HQ.out.ptr hik
                    have H16 := HQ.out.live i p
                    go_upto_if 77 with (go_at_call 16; refine H16.mono ?_; rintro e w' ⟨rfl, rfl⟩)
                    cases hlv : liveB X.cs i p
                    · go_wp2_with fail
                      go_roundw
                      case rel => exact ⟨i + 1, by omega, by go_num, HQ.out.mono (by omega) (fun x _ u h => h.skip hlv) (fun x _ h => ⟨h.1, by omega⟩)⟩
                      case measure => simp [intOf]; omega
                    · go_upto_region 21 with (go_at_call 17; refine (law_query HQ.out hik hlv (by omega)).mono ?_; rintro e w2 ⟨v, rfl, hlm, -⟩; obtain ⟨kd, rd, wt, su, ho, di, p7, p8, p9, n7, q7, n8, q8, n9, q9, rfl⟩ := hlm.parts; have HM := hide0 hlm; clear hlm; unfold boxF)
                      change Code.wp _ _ _ _ (w2.alloc (.cells (boxF kd (nm i) rd wt su ho di (.slice p7 n7 q7) (.slice p8 n8 q8) (.slice p9 n9 q9)) 44))
                      have HB := hide0 (HM.out.box hik (.cells (boxF kd (nm i) rd wt su ho di (.slice p7 n7 q7) (.slice p8 n8 q8) (.slice p9 n9 q9)) 44))
                      have HRW := hide0 (World.rowIs_alloc w2 (boxF kd (nm i) rd wt su ho di (.slice p7 n7 q7) (.slice p8 n8 q8) (.slice p9 n9 q9)) 44 _ (row_of10 _))
                      clear HM d1 dl H16
                      generalize w2.alloc (.cells (boxF kd (nm i) rd wt su ho di (.slice p7 n7 q7) (.slice p8 n8 q8) (.slice p9 n9 q9)) 44) = w3 at HB HRW ⊢
                      generalize w2.heap.size = bx at HB HRW ⊢
                      go_upto_region 23 with (go_at_call 18; refine (law_noliveM HB.out hik (by omega)).mono ?_; rintro e w4 ⟨rfl, hlm, kp⟩; have HS := hide0 (RD.start (HRW.out.of_block (kp bx (.inr rfl))) hlm); clear hlm kp)
                      clear HB HRW
                      go_wp2_with fail
                      go_loopw [17] (fun s wr => RD X E bx p i (400 * p + 40 * i + 5) (HQd X p i) (fun x => p = 0 ∧ i + 1 ≤ x) (boxF kd (nm i) rd wt su ho di (.slice p7 n7 q7) (.slice p8 n8 q8) (.slice p9 n9 q9)) s wr) (fun s _ => X.k - (intOf s).toNat)
                      case atStart => exact HS.out
                      case round =>
                        obtain ⟨j, hj, rfl, hlm, hrow⟩ := hrel
                        have HB := hide0 hlm
                        have HRW := hide0 hrow
                        clear hlm hrow HS
                        by_cases hjk : j < X.k
                        · have H16 := HB.out.less.live j p
                          by_cases hji : j = i
                          · subst hji
                            go_wp2_with fail
                            go_roundw
                            case rel => exact ⟨j + 1, by omega, by go_num, HB.out.mono (by omega) (fun x _ u h => h.self) (fun _ _ h => h), HRW.out⟩
                            case measure => simp [intOf]; omega
                          · have hjb : ((j : Int) == (i : Int)) = false := beq_eq_false_iff_ne.2 (by omega)
                            have hjn : ¬ ((j : Int) = (i : Int)) := by omega
                            cases hlj : liveB X.cs j p
                            · rw [hlj] at H16
                              go_wp2_with (go_at_call 16; refine H16.mono ?_; rintro e w' ⟨rfl, rfl⟩)
                              go_roundw
                              case rel => exact ⟨j + 1, by omega, by go_num, HB.out.mono (by omega) (fun x _ u h => h.skip hlj) (fun _ _ h => h), HRW.out⟩
                              case measure => simp [intOf]; omega
                            · rw [hlj] at H16
                              go_upto_region 27 with (go_at_call 16; refine H16.mono ?_; rintro e w' ⟨rfl, rfl⟩)
                              obtain ⟨d1, dl⟩ := HB.out.less.ptr hjk
                              have m0 : w'.cell? ⟨bx, 0, none⟩ = some (.int .u8 kd) := World.rowIs.cell HRW.out (i := 0) (by omega)
                              have m1 : w'.cell? ⟨bx, 1, none⟩ = some (.string (idb (nm i))) := World.rowIs.cell HRW.out (i := 1) (by omega)
                              have m2 : w'.cell? ⟨bx, 2, none⟩ = some (.int .u64 rd) := World.rowIs.cell HRW.out (i := 2) (by omega)
                              have m3 : w'.cell? ⟨bx, 3, none⟩ = some (.int .u64 wt) := World.rowIs.cell HRW.out (i := 3) (by omega)
                              have m4 : w'.cell? ⟨bx, 4, none⟩ = some (.bool su) := World.rowIs.cell HRW.out (i := 4) (by omega)
                              have m5 : w'.cell? ⟨bx, 5, none⟩ = some (.int .u64 ho) := World.rowIs.cell HRW.out (i := 5) (by omega)
                              have m6 : w'.cell? ⟨bx, 6, none⟩ = some (.int .u64 di) := World.rowIs.cell HRW.out (i := 6) (by omega)
                              have m7 : w'.cell? ⟨bx, 7, none⟩ = some (.slice p7 n7 q7) := World.rowIs.cell HRW.out (i := 7) (by omega)
                              have m8 : w'.cell? ⟨bx, 8, none⟩ = some (.slice p8 n8 q8) := World.rowIs.cell HRW.out (i := 8) (by omega)
                              have m9 : w'.cell? ⟨bx, 9, none⟩ = some (.slice p9 n9 q9) := World.rowIs.cell HRW.out (i := 9) (by omega)
                              have hbl := World.rowIs.lt HRW.out
                              go_cut [107] (fun _ wd => LM X (fun t => E t ∨ t = bx) p (400 * p + 40 * i + 5 + 6 * (j + 1)) (HQd X p i (j + 1)) (fun x => p = 0 ∧ i + 1 ≤ x) i (.agg (boxF kd (nm i) rd wt su ho di (.slice p7 n7 q7) (.slice p8 n8 q8) (.slice p9 n9 q9))) wd ∧ wd.rowIs bx 44 10 (fun t => (boxF kd (nm i) rd wt su ho di (.slice p7 n7 q7) (.slice p8 n8 q8) (.slice p9 n9 q9)).getD t undef))
                              case first =>
                                as_aux_lemma =>
                                  have HRC := law_receive (HB.out.below hik (w' := w'.drew) ⟨rfl, rfl, rfl, Nat.le_refl _, fun _ _ => rfl⟩) hik hjk hji hlj (by omega)
                                  simp only [boxF] at HRC
                                  go_region_with (go_at_call 19; refine HRC.mono ?_; rintro e w5 ⟨rfl, hlm, kp⟩; have HLM := hide0 hlm; have HR5 := hide0 (HRW.out.of_block (kp bx (.inr rfl))); clear hlm kp)
                                  all_goals (try go_wp2_with fail)
                                  all_goals go_meet
                                  all_goals exact ⟨HLM.out.mono (by omega) (fun x _ u h => h.got) (fun _ _ h => h), HR5.out⟩
                              case rest =>
                                clear HB HRW d1 dl m0 m1 m2 m3 m4 m5 m6 m7 m8 m9 hbl H16
                                obtain ⟨hlm, hrow⟩ := hcut
                                have HB := hide0 hlm
                                have HRW := hide0 hrow
                                clear hlm hrow
                                go_wp2_with (go_at_call 18; refine (law_noliveM HB.out hik (by omega)).mono ?_; rintro e w6 ⟨rfl, hlm, kp⟩; have HB6 := hide0 hlm; have HR6 := hide0 (HRW.out.of_block (kp bx (.inr rfl))); clear hlm kp)
                                go_roundw
                                case rel => exact ⟨j + 1, by omega, by go_num, HB6.out, HR6.out⟩
                                case measure => simp [intOf]; omega
                        · go_wp2_with fail
                          go_roundw
                          case rel =>
                            have e : j = X.k := by omega
                            subst e
                            exact ⟨i + 1, by omega, by go_num, LN.unbox HQ.out (HB.out.less.mono (by omega) (fun x hx u h => HQd.done hx h) (fun _ _ h => h))⟩
                          case measure => simp [intOf]; omega
                  · go_wp2_with fail
                    go_meet
                    case rel =>
                      have e : i = X.k := by omega
                      subst e
                      exact HQ.out.mono (by omega) (fun _ _ _ h => h) (fun x _ h => h.elim)
            case rest =>
              clear HL
              have HL := hide0 hcut
              clear hcut
              go_upto_block 6 with fail
              go_cut [18] (fun _ wd => LN X E p (400 * p + 400) (fun x => Sch X.cs X.k p X.k x) (fun _ => False) wd)
              case first =>
                as_aux_lemma =>
                  go_wp2_with fail
                  go_loopw [18] (fun s wr => RF X E p s wr) (fun s _ => X.k - (intOf s).toNat)
                  case atStart => exact ⟨0, Nat.zero_le _, rfl, HL.out⟩
                  case round =>
                    obtain ⟨i, hi, rfl, hl⟩ := hrel
                    have HQ := hide0 hl
                    clear hl HL
                    by_cases hik : i < X.k
                    · obtain ⟨d1, dl⟩ := HQ.out.ptr hik
                      have H16 := HQ.out.live i p
                      cases hlv : liveB X.cs i p
                      · rw [hlv] at H16
                        go_wp2_with (go_at_call 16; refine H16.mono ?_; rintro e w' ⟨rfl, rfl⟩)
                        go_roundw
                        case rel => exact ⟨i + 1, by omega, by go_num, HQ.out.mono (by omega) (fun _ _ _ h => h) (fun _ _ h => h)⟩
                        case measure => simp [intOf]; omega
                      · rw [hlv] at H16
                        go_upto_region 35 with (first
                          | (go_at_call 16; refine H16.mono ?_; rintro e w' ⟨rfl, rfl⟩)
                          | (go_at_call 14; refine (law_flush HQ.out hik (by omega) (fun _ _ h => h)).mono ?_; rintro e w2 ⟨v, b, rfl, hln, hlm, hv, -⟩; obtain ⟨kd, s, rd, wt, su, ho, di, p7, p8, p9, n7, q7, n8, q8, n9, q9, rfl⟩ := flush_parts hlm hv; have HM := hide0 (LB.mk hln hlm); clear hln hlm hv; unfold boxG))
                        change Code.wp _ _ _ _ (w2.alloc (.cells (boxG kd s rd wt su ho di (.slice p7 n7 q7) (.slice p8 n8 q8) (.slice p9 n9 q9)) 44))
                        have HB := hide0 (HM.out.box hik (.cells (boxG kd s rd wt su ho di (.slice p7 n7 q7) (.slice p8 n8 q8) (.slice p9 n9 q9)) 44))
                        have HRW := hide0 (World.rowIs_alloc w2 (boxG kd s rd wt su ho di (.slice p7 n7 q7) (.slice p8 n8 q8) (.slice p9 n9 q9)) 44 _ (row_of10 _))
                        clear HM d1 dl H16
                        generalize w2.alloc (.cells (boxG kd s rd wt su ho di (.slice p7 n7 q7) (.slice p8 n8 q8) (.slice p9 n9 q9)) 44) = w3 at HB HRW ⊢
                        generalize w2.heap.size = bx at HB HRW ⊢
                        go_upto_region 37 with (go_at_call 18; refine (law_noliveB HB.out hik (by omega)).mono ?_; rintro e w4 ⟨rfl, hlb, kp⟩; have HB4 := hide0 hlb; have HR4 := hide0 (HRW.out.of_block (kp bx (.inr rfl))); clear hlb kp)
                        clear HB HRW
                        cases b
                        · go_wp2_with fail
                          go_roundw
                          case rel => exact ⟨i + 1, by omega, by go_num, LN.unbox HQ.out (HB4.out.ln.mono (by omega) (fun _ _ _ h => h) (fun _ _ h => h))⟩
                          case measure => simp [intOf]; omega
                        · have HS := hide0 (RD.startF HR4.out (HB4.out.lm rfl))
                          clear HB4 HR4
                          go_wp2_with fail
                          go_loopw [21] (fun s' wr => RD X E bx p i (400 * p + 200 + 40 * i) (fun _ x => Sch X.cs X.k p X.k x) (fun _ => False) (boxG kd s rd wt su ho di (.slice p7 n7 q7) (.slice p8 n8 q8) (.slice p9 n9 q9)) s' wr) (fun s _ => X.k - (intOf s).toNat)
                          case atStart => exact HS.out
                          case round =>
                            obtain ⟨j, hj, rfl, hlm, hrow⟩ := hrel
                            have HB := hide0 hlm
                            have HRW := hide0 hrow
                            clear hlm hrow HS
                            by_cases hjk : j < X.k
                            · have H16 := HB.out.less.live j p
                              by_cases hji : j = i
                              · subst hji
                                go_wp2_with fail
                                go_roundw
                                case rel => exact ⟨j + 1, by omega, by go_num, HB.out.mono (by omega) (fun _ _ _ h => h) (fun _ _ h => h), HRW.out⟩
                                case measure => simp [intOf]; omega
                              · have hjb : ((j : Int) == (i : Int)) = false := beq_eq_false_iff_ne.2 (by omega)
                                have hjn : ¬ ((j : Int) = (i : Int)) := by omega
                                cases hlj : liveB X.cs j p
                                · rw [hlj] at H16
                                  go_wp2_with (go_at_call 16; refine H16.mono ?_; rintro e w' ⟨rfl, rfl⟩)
                                  go_roundw
                                  case rel => exact ⟨j + 1, by omega, by go_num, HB.out.mono (by omega) (fun _ _ _ h => h) (fun _ _ h => h), HRW.out⟩
                                  case measure => simp [intOf]; omega
                                · rw [hlj] at H16
                                  go_upto_region 42 with (go_at_call 16; refine H16.mono ?_; rintro e w' ⟨rfl, rfl⟩)
                                  obtain ⟨d1, dl⟩ := HB.out.less.ptr hjk
                                  have m0 : w'.cell? ⟨bx, 0, none⟩ = some (.int .u8 kd) := World.rowIs.cell HRW.out (i := 0) (by omega)
                                  have m1 : w'.cell? ⟨bx, 1, none⟩ = some (.string s) := World.rowIs.cell HRW.out (i := 1) (by omega)
                                  have m2 : w'.cell? ⟨bx, 2, none⟩ = some (.int .u64 rd) := World.rowIs.cell HRW.out (i := 2) (by omega)
                                  have m3 : w'.cell? ⟨bx, 3, none⟩ = some (.int .u64 wt) := World.rowIs.cell HRW.out (i := 3) (by omega)
                                  have m4 : w'.cell? ⟨bx, 4, none⟩ = some (.bool su) := World.rowIs.cell HRW.out (i := 4) (by omega)
                                  have m5 : w'.cell? ⟨bx, 5, none⟩ = some (.int .u64 ho) := World.rowIs.cell HRW.out (i := 5) (by omega)
                                  have m6 : w'.cell? ⟨bx, 6, none⟩ = some (.int .u64 di) := World.rowIs.cell HRW.out (i := 6) (by omega)
                                  have m7 : w'.cell? ⟨bx, 7, none⟩ = some (.slice p7 n7 q7) := World.rowIs.cell HRW.out (i := 7) (by omega)
                                  have m8 : w'.cell? ⟨bx, 8, none⟩ = some (.slice p8 n8 q8) := World.rowIs.cell HRW.out (i := 8) (by omega)
                                  have m9 : w'.cell? ⟨bx, 9, none⟩ = some (.slice p9 n9 q9) := World.rowIs.cell HRW.out (i := 9) (by omega)
                                  have hbl := World.rowIs.lt HRW.out
                                  go_cut [157] (fun _ wd => LM X (fun t => E t ∨ t = bx) p (400 * p + 200 + 40 * i + 6 * (j + 1)) (fun x => Sch X.cs X.k p X.k x) (fun _ => False) i (.agg (boxG kd s rd wt su ho di (.slice p7 n7 q7) (.slice p8 n8 q8) (.slice p9 n9 q9))) wd ∧ wd.rowIs bx 44 10 (fun t => (boxG kd s rd wt su ho di (.slice p7 n7 q7) (.slice p8 n8 q8) (.slice p9 n9 q9)).getD t undef))
                                  case first =>
                                    as_aux_lemma =>
                                      have HRC := law_receive (HB.out.below hik (w' := w'.drew) ⟨rfl, rfl, rfl, Nat.le_refl _, fun _ _ => rfl⟩) hik hjk hji hlj (by omega)
                                      simp only [boxG] at HRC
                                      go_region_with (go_at_call 19; refine HRC.mono ?_; rintro e w5 ⟨rfl, hlm, kp⟩; have HLM := hide0 hlm; have HR5 := hide0 (HRW.out.of_block (kp bx (.inr rfl))); clear hlm kp)
                                      all_goals (try go_wp2_with fail)
                                      all_goals go_meet
                                      all_goals exact ⟨HLM.out.mono (by omega) (fun x _ u h => upd_more h) (fun _ _ h => h), HR5.out⟩
                                  case rest =>
                                    clear HB HRW d1 dl m0 m1 m2 m3 m4 m5 m6 m7 m8 m9 hbl H16
                                    obtain ⟨hlm, hrow⟩ := hcut
                                    have HB := hide0 hlm
                                    have HRW := hide0 hrow
                                    clear hlm hrow
                                    go_wp2_with (go_at_call 18; refine (law_noliveM HB.out hik (by omega)).mono ?_; rintro e w6 ⟨rfl, hlm, kp⟩; have HB6 := hide0 hlm; have HR6 := hide0 (HRW.out.of_block (kp bx (.inr rfl))); clear hlm kp)
                                    go_roundw
                                    case rel => exact ⟨j + 1, by omega, by go_num, HB6.out, HR6.out⟩
                                    case measure => simp [intOf]; omega
                            · go_wp2_with fail
                              go_roundw
                              case rel =>
                                have e : j = X.k := by omega
                                subst e
                                exact ⟨i + 1, by omega, by go_num, LN.unbox HQ.out (HB.out.less.mono (by omega) (fun _ _ _ h => h) (fun _ _ h => h))⟩
                              case measure => simp [intOf]; omega
                    · go_wp2_with fail
                      go_meet
                      case rel => exact HQ.out.mono (by omega) (fun _ _ _ h => h) (fun _ _ h => h)
              case rest =>
                clear HL
                have HL := hide0 hcut
                clear hcut
                go_wp2_with fail
                go_loopw [22] (fun s wr => RS X E p s wr) (fun s _ => X.k - (intOf s).toNat)
                case atStart => exact ⟨0, Nat.zero_le _, rfl, HL.out⟩
                case round =>
                  obtain ⟨i, hi, rfl, hl⟩ := hrel
                  have HQ := hide0 hl
                  clear hl HL
                  by_cases hik : i < X.k
                  · as_aux_lemma =>
                      obtain ⟨d1, dl⟩ := HQ.out.ptr hik
                      have H16 := HQ.out.live i p
                      cases hlv : liveB X.cs i p
                      · rw [hlv] at H16
                        go_wp2_with (go_at_call 16; refine H16.mono ?_; rintro e w' ⟨rfl, rfl⟩)
                        go_roundw
                        case rel => exact ⟨i + 1, by omega, by go_num, HQ.out⟩
                        case measure => simp [intOf]; omega
                      · rw [hlv] at H16
                        go_upto_region 50 with (first
                          | (go_at_call 16; refine H16.mono ?_; rintro e w' ⟨rfl, rfl⟩)
                          | (go_at_call 12; refine (law_sus HQ.out hik).mono ?_; rintro e w2 ⟨v, xs, rfl, hown, hx5, hdd, hln⟩; obtain ⟨pv, cv, rfl, hpv, hcv⟩ := own_at hown; have HN2 := hide0 hln; have HF := hide0 (sus_cells hpv hcv hdd); clear hown hdd hln hpv hcv))
                        clear d1 dl H16 HQ
                        generalize xs.length = nx at *
                        go_wp2_with fail
                        go_loop [24] (fun s => ∃ t : Nat, t ≤ nx ∧ s = .int .i64 t) (fun s => nx - (intOf s).toNat)
                        case atStart => exact ⟨0, Nat.zero_le _, rfl⟩
                        case round =>
                          obtain ⟨t, ht, rfl⟩ := hrel
                          by_cases htl : t < nx
                          · obtain ⟨g, u, rfl, hgl, q, hdu⟩ := HF.out t htl
                            have HDU := hide0 hdu
                            clear hdu
                            go_upto_region 54 with (go_at_call 20; refine (index_any u X.k hk5 _).mono ?_; rintro e w' ⟨z, rfl, hz, rfl⟩)
                            rcases hz with rfl | ⟨j, hj, rfl, hju⟩
                            · go_wp2_with fail
                              go_round
                              case rel => exact ⟨t + 1, by omega, by go_num⟩
                              case measure => simp [intOf]; omega
                            · have hl : liveB X.cs j p = false := DdP.gone hj (by rw [← hju]; exact HDU.out)
                              have H16 := HN2.out.live j p
                              rw [hl] at H16
                              clear hl hju
                              go_wp2_with (go_at_call 16; refine H16.mono ?_; rintro e w' ⟨rfl, rfl⟩)
                              go_round
                              case rel => exact ⟨t + 1, by omega, by go_num⟩
                              case measure => simp [intOf]; omega
                          · clear HF
                            go_wp2_with fail
                            go_roundw
                            case rel => exact ⟨i + 1, by omega, by go_num, HN2.out⟩
                            case measure => simp [intOf]; omega
                  · go_wp2_with fail
                    go_roundw
                    case rel =>
                      obtain ⟨Ss, l⟩ := HQ.out
                      exact ⟨p + 1, by omega, by go_num, Ss, l.pause (by omega) (fun x _ u h => h.pause) (fun _ _ h => by omega)⟩
                    case measure => simp [intOf]; omega
          · go_wp2_with fail
            go_ret
            obtain ⟨Ss, l⟩ := HL.out
            exact ⟨rfl, l.below⟩
end Go.Proofs.Qxb6002353a
