import Derived.Test.Qxb6002353aTen
import Derived.Deep.DeepCutAuto
import Derived.Deep.RegionWith
import Derived.BigQuiet
namespace Go.Proofs.Qxb6002353a
open Go.RowKit Go.Maps

/-- a query stands in the hand, the node is what it was, its round may have gone on -/
def QryPost (S : Nat → Prop) (w : World) (F : Fx) (Dd : UInt8 → Prop) (c : Nat) (ab cap : Nat) (L : List Nat) (Hd : UInt8 → Prop) (e : Ending) (w' : World) : Prop :=
  ∃ v r', e = .returned v ∧ 0 ≤ r' ∧ NG S w w' F Dd c r' ab cap L (Phi F r' No Hd) ∧ MsgOK (grow S w w') w' Dd F.id v

def PhiX (Zs : UInt8 → Prop) : Nat → UInt8 → Value → Value → Value → Prop := fun _ u _ _ s => Zs u → s = .int .u64 0

def z44 : Array Value := #[.int .u8 0, .string ByteArray.empty, .int .u64 0, .int .u64 0, .bool false, .int .u64 0, .int .u64 0, .slice none 0 0, .slice none 0 0, .slice none 0 0]

theorem row_of (c : Array Value) : ∀ i, i < c.size → c[i]? = some (c.getD i undef) := fun i hi => by simp [Array.getD, hi]

theorem Head.put5 {u : UInt8} {M : Nat → Value} (h : Head u M) (z : Int) (hz : 0 ≤ z) : Head u (Qxb6002353a.put M 5 (.int .u64 z)) := by
  obtain ⟨k, rd, wt, su, ho, di, h0, h1, h2, h3, h4, h5, h6, h7, h8, h9, h10, h11⟩ := h
  refine ⟨k, rd, wt, su, z, di, ?_, ?_, ?_, ?_, ?_, put_same _ _ _, ?_, h7, h8, h9, hz, h11⟩ <;> (rw [put_other _ _ _ _ (by decide)]; assumption)
theorem Head.put6 {u : UInt8} {M : Nat → Value} (h : Head u M) (z : Int) (hz : 0 ≤ z) : Head u (Qxb6002353a.put M 6 (.int .u64 z)) := by
  obtain ⟨k, rd, wt, su, ho, di, h0, h1, h2, h3, h4, h5, h6, h7, h8, h9, h10, h11⟩ := h
  refine ⟨k, rd, wt, su, ho, z, ?_, ?_, ?_, ?_, ?_, ?_, put_same _ _ _, h7, h8, h9, h10, hz⟩ <;> (rw [put_other _ _ _ _ (by decide)]; assumption)

/-- the lists of a message that are not filled in yet -/
def Bare (u : UInt8) (M : Nat → Value) : Prop := Head u M ∧ M 7 = .slice none 0 0 ∧ M 8 = .slice none 0 0 ∧ M 9 = .slice none 0 0

theorem Bare.put56 {u : UInt8} {M : Nat → Value} (h : Bare u M) {y z : Int} (hy : 0 ≤ y) (hz : 0 ≤ z) : Bare u (Qxb6002353a.put (Qxb6002353a.put M 5 (.int .u64 y)) 6 (.int .u64 z)) := by
  refine ⟨(h.1.put5 y hy).put6 z hz, ?_, ?_, ?_⟩ <;> (rw [put_other _ _ _ _ (by decide), put_other _ _ _ _ (by decide)])
  · exact h.2.1
  · exact h.2.2.1
  · exact h.2.2.2

/-- a message has been made, in a block of its own -/
def QS (S0 : Nat → Prop) (wa wd : World) (F : Fx) (Dd : UInt8 → Prop) (c : Nat) (r : Int) (ab cap : Nat) (L : List Nat) (φ : Nat → UInt8 → Value → Value → Value → Prop) (s : Value) : Prop :=
  ∃ mb M S1, s = .pointer (some ⟨mb, 0, none⟩) ∧ Touch S0 wa wd ∧ (∀ i, S1 i → grow S0 wa wd i ∧ i ≠ mb) ∧ wa.heap.size ≤ mb ∧ QX S1 wd wd F Dd c r ab cap L φ mb M ∧ Bare F.id M

theorem QS.make {S0 : Nat → Prop} {wa wc : World} {F : Fx} {Dd : UInt8 → Prop} {c : Nat} {r : Int} {ab cap : Nat} {L : List Nat} {φ : Nat → UInt8 → Value → Value → Value → Prop} (h : NG S0 wa wc F Dd c r ab cap L φ) (hS : ∀ i, S0 i → i < wa.heap.size) {rd wt : Int} (hr : 0 ≤ rd) (hw : 0 ≤ wt) (su : Bool) :
    QS S0 wa (wc.alloc (.cells #[.int .u8 2, .string (idb F.id), .int .u64 rd, .int .u64 wt, .bool su, .int .u64 0, .int .u64 0, .slice none 0 0, .slice none 0 0, .slice none 0 0] 44)).drew F Dd c r ab cap L φ (.pointer (some ⟨wc.heap.size, 0, none⟩)) := by
  have hsz := h.2.size
  refine ⟨wc.heap.size, fun i => #[.int .u8 2, .string (idb F.id), .int .u64 rd, .int .u64 wt, .bool su, .int .u64 0, .int .u64 0, .slice none 0 0, .slice none 0 0, .slice none 0 0].getD i undef, grow S0 wa wc, rfl, (h.2.alloc _).drewN 1, fun i hi => ⟨grow_mono (by simp) hi, fun e => ?_⟩, hsz, ⟨?_, Touch.refl _ _, ?_, ?_, by simp⟩, ⟨2, rd, wt, su, 0, 0, rfl, rfl, rfl, rfl, rfl, rfl, rfl, .inl rfl, hr, hw, Int.le_refl _, Int.le_refl _⟩, rfl, rfl, rfl⟩
  · rcases hi with hi | hi
    · have := hS i hi; omega
    · omega
  · exact ((h.1.alloc _).drewN 1).monoS (fun _ e => .inl e)
  · exact World.rowIs_alloc wc _ 44 _ (row_of _)
  · intro e
    rcases e with e | e
    · have := hS _ e; omega
    · omega

/-- the pairs are laid in the message -/
theorem QX.pairs {S1 : Nat → Prop} {wb w3 : World} {F : Fx} {Dd : UInt8 → Prop} {c : Nat} {r : Int} {ab cap : Nat} {L : List Nat} {φ : Nat → UInt8 → Value → Value → Value → Prop} {mb : Nat} {M' : Nat → Value} {u : UInt8} {v : Value} (hx : QX S1 wb w3 F Dd c r ab cap L φ mb M') (hb : Bare u M') (he : Entries (grow S1 wb w3) w3 Dd v) :
    ∃ M'', QX S1 wb (w3.setCell ⟨mb, 7, none⟩ v) F Dd c r ab cap L φ mb M'' ∧ Head u M'' ∧ Entries (grow S1 wb (w3.setCell ⟨mb, 7, none⟩ v)) (w3.setCell ⟨mb, 7, none⟩ v) Dd (M'' 7) ∧ M'' 8 = .slice none 0 0 ∧ M'' 9 = .slice none 0 0 := by
  refine ⟨put M' 7 v, hx.setM 7 v, hb.1.put 7 v (by omega), ?_, ?_, ?_⟩
  · rw [put_same]
    exact (he.setM hx.2.2.1 7 v).mono (fun i hi => grow_mono (by simp [World.setCell]) hi) (fun _ e => e)
  · rw [put_other _ _ _ _ (by decide)]; exact hb.2.2.1
  · rw [put_other _ _ _ _ (by decide)]; exact hb.2.2.2

/-- the message is handed over: what the walk's two halves come to, seen from the start -/
theorem Qry.done {S S1 : Nat → Prop} {w wa wb w4 : World} {F : Fx} {Dd : UInt8 → Prop} {c : Nat} {r : Int} {ab cap : Nat} {L : List Nat} {φ : Nat → UInt8 → Value → Value → Value → Prop} {mb : Nat} {M : Nat → Value} {u : UInt8} {v0 v1 v2 v3 v4 v5 v6 v7 v8 v9 : Value} {f : Nat → Value}
    (hwa : wa.heap.size = w.heap.size + 1) (hta : Touch (here S w) w wa) (htb : Touch (here S w) wa wb) (hS1 : ∀ i, S1 i → grow (here S w) wa wb i ∧ i ≠ mb) (hmb : wa.heap.size ≤ mb)
    (hx : QX S1 wb w4 F Dd c r ab cap L φ mb M) (hm : MsgOK (grow S1 wb w4) w4 Dd u (aggOf M)) (hag : aggOf M = .agg #[v0, v1, v2, v3, v4, v5, v6, v7, v8, v9]) (hrow : w4.rowIs w.heap.size 44 10 f) :
    (set10 w4 w.heap.size v0 v1 v2 v3 v4 v5 v6 v7 v8 v9).heap[w.heap.size]? = some (.cells #[v0, v1, v2, v3, v4, v5, v6, v7, v8, v9] 44 (0, 0)) ∧
    NG S w (set10 w4 w.heap.size v0 v1 v2 v3 v4 v5 v6 v7 v8 v9) F Dd c r ab cap L φ ∧ MsgOK (grow S w (set10 w4 w.heap.size v0 v1 v2 v3 v4 v5 v6 v7 v8 v9)) (set10 w4 w.heap.size v0 v1 v2 v3 v4 v5 v6 v7 v8 v9) Dd u (.agg #[v0, v1, v2, v3, v4, v5, v6, v7, v8, v9]) := by
  have g := set10_grown w4 w.heap.size v0 v1 v2 v3 v4 v5 v6 v7 v8 v9
  have gz := set10_size w4 w.heap.size v0 v1 v2 v3 v4 v5 v6 v7 v8 v9
  have s1 := htb.size
  have s2 := hx.2.1.size
  have hno : ¬ grow S1 wb w4 w.heap.size := by
    rintro (e | e)
    · rcases (hS1 _ e).1 with e | e
      · have := e.2; omega
      · omega
    · omega
  have hS : ∀ i, grow S1 wb w4 i → grow S w (set10 w4 w.heap.size v0 v1 v2 v3 v4 v5 v6 v7 v8 v9) i := by
    intro i hi
    rcases hi with hi | hi
    · rcases (hS1 _ hi).1 with e | e
      · exact .inl e.1
      · exact .inr ⟨by omega, by omega⟩
    · exact .inr ⟨by omega, by omega⟩
  refine ⟨set10_row hrow _ _ _ _ _ _ _ _ _ _, ⟨?_, ?_⟩, ?_⟩
  · obtain ⟨⟨N, G, pid, P, K, hn⟩, -⟩ := hx
    exact ⟨_, _, _, _, _, (hn.far g (fun k e hk => by cases e; exact hno hk)).mono hS (fun _ e => e) hn.dnm (Nat.le_refl _) (fun _ _ e => e)⟩
  · have t1 : Touch S w wb := (hta.trans (htb.mono fun i hi => .inl hi)).mono (fun i hi => hi.1)
    have t2 : Touch S w w4 := t1.trans (hx.2.1.mono fun i hi => by
      rcases hi with hi | hi
      · rcases (hS1 _ hi).1 with e | e
        · exact .inl e.1
        · exact .inr ⟨by omega, by omega⟩
      · refine .inr ⟨by omega, ?_⟩
        rw [hi]; exact hx.2.2.2.2)
    exact t2.grown g (fun k e => by cases e; exact .inr ⟨by omega, by omega⟩)
  · rw [← hag]
    exact (hm.kept g (fun k e hk => by cases e; exact hno hk)).mono hS (fun _ e => e)

set_option maxHeartbeats 16000000 in
set_option maxRecDepth 100000 in
theorem query_any {S : Nat → Prop} {w : World} {F : Fx} {Dd : UInt8 → Prop} {c : Nat} {r : Int} {ab cap : Nat} {L : List Nat} {Hd Zs : UInt8 → Prop} (h : NodeOK S w F Dd c r ab cap L (Phi F r Hd Zs)) (hc : c + 5 ≤ 1000000)
    (hq : r = 0 ∨ ∀ u, IsNm u → u ≠ F.id → Hd u ∨ Dd u) :
    Calls Try.prog 17 #[.pointer (some ⟨F.nb, 0, none⟩)] w (QryPost S w F Dd (c + 5) ab cap L Hd) := by
  have HA : Hid (NodeOK (here S w) (w.alloc (.cells #[.int .u8 0, .string ByteArray.empty, .int .u64 0, .int .u64 0, .bool false, .int .u64 0, .int .u64 0, .slice none 0 0, .slice none 0 0, .slice none 0 0] 44)) F Dd c r ab cap L (Phi F r Hd Zs)) := h.restrict.alloc _
  have HQ : Hid (r = 0 ∨ ∀ u, IsNm u → u ≠ F.id → Hd u ∨ Dd u) := hq
  have hr0 : 0 ≤ r := by
    obtain ⟨N, G, pid, P, K, h⟩ := h
    have := h.nty 12 (by omega)
    rw [h.n12] at this
    obtain ⟨z, hz, hz0⟩ := Ty.u this
    cases hz; exact hz0
  clear h hq
  go_enter Try.func17, Try.ntmps17
  go_upto_region 2 with (go_at_call 30; refine (endPause_any HA.out).mono ?_; rintro e w1 ⟨rfl, hnt⟩)
  have HR : Hid ((w.alloc (.cells z44 44)).rowIs w.heap.size 44 10 (fun i => z44.getD i undef)) := World.rowIs_alloc w z44 44 _ (row_of _)
  have HW : Hid ((w.alloc (.cells z44 44)).heap.size = w.heap.size + 1 ∧ Touch (here S w) w (w.alloc (.cells z44 44))) := ⟨by simp, (Touch.refl _ _).alloc _⟩
  replace hnt : NG (here S w) (w.alloc (.cells z44 44)) w1 F Dd c r ab cap L (Phi F r No Hd) := NG.ofNT hnt
  clear HA
  generalize w.alloc (.cells z44 44) = wa at hnt HR HW
  obtain ⟨⟨N1, G1, pid1, P1, K1, hn1⟩, ht1⟩ := hnt
  have HN : Hid (NG (here S w) wa w1 F Dd c r ab cap L (Phi F r No Hd)) := ⟨⟨_, _, _, _, _, hn1⟩, ht1⟩
  have c12 : w1.cell? ⟨F.nb, 12, none⟩ = some (.int .u64 r) := by rw [← hn1.n12]; exact World.rowIs.cell hn1.nrow (by omega)
  obtain ⟨z13, c13⟩ := hn1.ci 13 (by omega) rfl
  have hnl1 := World.rowIs.lt hn1.nrow
  clear hn1 ht1
  go_cut [20] (fun s wd => ∃ bb : Bool, s = .bool bb ∧ (r = 0 → bb = true) ∧ NG (here S w) wa wd F Dd c r ab cap L (Phi F r No Hd))
  case first =>
    by_cases hrz : r = 0
    · have hrd : (r == 0) = true := beq_iff_eq.2 hrz
      have HRZ : Hid (r = 0) := hrz
      clear hrz
      go_quiet (fail)
      go_wp2_with fail
      go_meet
      exact ⟨_, rfl, fun _ => rfl, HN.out.drewN _⟩
    · have hrd : (r == 0) = false := beq_eq_false_iff_ne.2 hrz
      go_region_with (go_at_call 31; refine (alpha_any (HN.out.drewN 1).1).mono ?_; rintro e w' ⟨z, q, rfl, rfl⟩)
      all_goals (try go_wp2_with fail)
      all_goals go_meet
      all_goals exact ⟨_, rfl, fun e => absurd e hrz, HN.out.drewN _⟩
  case rest =>
    obtain ⟨bb, rfl, hb0, hng⟩ := hcut
    clear HN c12 c13 hnl1
    have HN : Hid (NG (here S w) wa wc F Dd c r ab cap L (Phi F r No Hd)) := hng
    obtain ⟨⟨N1, G1, pid1, P1, K1, hn1⟩, ht1⟩ := hng
    have c12 : wc.cell? ⟨F.nb, 12, none⟩ = some (.int .u64 r) := by rw [← hn1.n12]; exact World.rowIs.cell hn1.nrow (by omega)
    have hnl1 := World.rowIs.lt hn1.nrow
    clear hn1 ht1
    go_upto_if 20 with fail
    go_cut [52] (fun _ wd => ∃ r' : Int, 0 ≤ r' ∧ NG (here S w) wa wd F Dd (c + 5) r' ab cap L (Phi F r' No Hd))
    case first =>
      cases bb
      · go_wp2_with fail
        go_meet
        case rel => exact ⟨r, hr0, HN.out.monoC (by omega)⟩
      · clear hb0
        go_upto_if 25 with fail
        go_cut [27] (fun _ wd => NG (here S w) wa wd F Dd (c + 5) r ab cap L (Phi F r No Hd))
        case first =>
          by_cases hrz : r = 0
          · have hle : r ≤ 0 := by omega
            have HRZ : Hid (r = 0) := hrz
            clear hrz
            go_wp2_with fail
            go_meet
            case rel => exact HN.out.monoC (by omega)
          · have HCL := close_any HN.out.1 hc (fun u h1 h2 => (HQ.out.resolve_left hrz) u h1 h2)
            have HRZ : Hid (¬ r = 0) := hrz
            have HCH := hide0 HCL
            clear hrz HCL
            have hpos : 0 < r := by have := HRZ.out; omega
            go_wp2_with fail
            go_at_call 32
            refine HCH.out.mono ?_
            rintro e w2 ⟨rfl, hk⟩
            have HK := HN.out.next hk
            clear hk
            go_wp2_with fail
            go_meet
            case rel => exact HK
        case rest =>
          clear HN c12 hnl1
          have HN : Hid (NG (here S w) wa wc F Dd (c + 5) r ab cap L (Phi F r No Hd)) := hcut
          obtain ⟨⟨N1, G1, pid1, P1, K1, hn1⟩, ht1⟩ := hcut
          have c12 : wc.cell? ⟨F.nb, 12, none⟩ = some (.int .u64 r) := by rw [← hn1.n12]; exact World.rowIs.cell hn1.nrow (by omega)
          have f12 := hn1.fz 12
          have hnl1 := World.rowIs.lt hn1.nrow
          clear hn1 ht1
          have HZ : Hid (0 ≤ IntKind.u64.wrap (r + 1)) := wrap_nn _
          have HN5 : Hid (NG (here S w) wa (wc.setCell ⟨F.nb, 12, none⟩ (.int .u64 (IntKind.u64.wrap (r + 1)))) F Dd (c + 5) (IntKind.u64.wrap (r + 1)) ab cap L (PhiX Hd)) :=
            HN.out.next (NG.ofNT ((NT.start HN.out.1).setRd _ HZ.out (fun b _ u a h s hx => hx.2.2)))
          go_upto_region 5 with fail
          go_cut [34] (fun _ wd => NG (here S w) wa wd F Dd (c + 5) (IntKind.u64.wrap (r + 1)) ab cap L (PhiX Hd))
          case first =>
            go_wp2_with fail
            go_meet
            case rel => exact HN5.out
          case rest =>
            clear HN HN5 c12 f12 hnl1
            generalize IntKind.u64.wrap (r + 1) = z at hcut HZ
            have HN : Hid (NG (here S w) wa wc F Dd (c + 5) z ab cap L (PhiX Hd)) := hcut
            obtain ⟨⟨N1, G1, pid1, P1, K1, hn1⟩, ht1⟩ := hcut
            have c12 : wc.cell? ⟨F.nb, 12, none⟩ = some (.int .u64 z) := by rw [← hn1.n12]; exact World.rowIs.cell hn1.nrow (by omega)
            have c4 : wc.cell? ⟨F.nb, 4, none⟩ = some (.map (some F.pm)) := by rw [← hn1.n4]; exact World.rowIs.cell hn1.nrow (by omega)
            have c0 : wc.cell? ⟨F.nb, 0, none⟩ = some (.string (idb F.id)) := by rw [← hn1.n0]; exact World.rowIs.cell hn1.nrow (by omega)
            obtain ⟨z13, c13⟩ := hn1.ci 13 (by omega) rfl
            have f13 := hn1.fz 13
            have hp := (hn1.peer _ hn1.self.1).1
            obtain ⟨a3, -, d3⟩ := hp.cu 3 (by omega) rfl
            have fd3 := hp.fz 3
            have hsl := World.rowIs.lt hp.row
            have hnl1 := World.rowIs.lt hn1.nrow
            have hlk := hn1.looks wc.drew rfl
            have hbn := hn1.bn hn1.self.1
            have HSB : Hid (F.sb ∈ L) := hn1.self.1
            clear hn1 ht1 hp
            go_upto_region 6 with fail
            go_cut [49] (fun _ wd => NG (here S w) wa wd F Dd (c + 5) z ab cap L (Phi F z No Hd))
            case first =>
              go_region
              all_goals (try go_wp2_with fail)
              all_goals go_meet
              all_goals exact (HN.out.next (NG.ofNT ((NT.start HN.out.1).setAns (φ' := Phi F z No Hd) HSB.out z HZ.out (fun u a h s hx => ⟨fun _ => rfl, (fun e => by cases e), hx⟩) (fun b' _ hne u a h s hx => ⟨fun e => absurd e hne, (fun e => by cases e), hx⟩)))).drewN 1
            case rest =>
              clear HN c12 c4 c0 c13 f13 d3 fd3 hsl hnl1 hlk hbn
              have HN : Hid (NG (here S w) wa wc F Dd (c + 5) z ab cap L (Phi F z No Hd)) := hcut
              obtain ⟨⟨N1, G1, pid1, P1, K1, hn1⟩, ht1⟩ := hcut
              obtain ⟨z13, c13⟩ := hn1.ci 13 (by omega) rfl
              have f13 := hn1.fz 13
              have hnl1 := World.rowIs.lt hn1.nrow
              clear hn1 ht1
              go_wp2_with fail
              go_meet
              case rel => exact ⟨z, HZ.out, HN.out.next (NG.ofNT ((NT.start HN.out.1).setP 13 _ (by simp) (Ty.mki _)))⟩
    case rest =>
      obtain ⟨r', hr', hng⟩ := hcut
      clear HN c12 hnl1 hb0 HQ hr0
      have HN : Hid (NG (here S w) wa wc F Dd (c + 5) r' ab cap L (Phi F r' No Hd)) := hng
      obtain ⟨⟨N1, G1, pid1, P1, K1, hn1⟩, ht1⟩ := hng
      have c12 : wc.cell? ⟨F.nb, 12, none⟩ = some (.int .u64 r') := by rw [← hn1.n12]; exact World.rowIs.cell hn1.nrow (by omega)
      have c0 : wc.cell? ⟨F.nb, 0, none⟩ = some (.string (idb F.id)) := by rw [← hn1.n0]; exact World.rowIs.cell hn1.nrow (by omega)
      obtain ⟨z19, n19, c19⟩ := hn1.cu 19 (by omega) rfl
      obtain ⟨b20, c20⟩ := hn1.cb 20 (by omega) rfl
      have hnl1 := World.rowIs.lt hn1.nrow
      clear hn1 ht1
      go_upto_region 8 with fail
      go_cut [3] (fun s wd => QS (here S w) wa wd F Dd (c + 5) r' ab cap L (Phi F r' No Hd) s)
      case first =>
        go_region
        all_goals (try go_wp2_with fail)
        all_goals go_meet
        all_goals exact QS.make HN.out (fun i hi => by have := HW.out.1; have := hi.2; omega) hr' n19 b20
      case rest =>
        obtain ⟨wb, hwb⟩ : ∃ wb, wb = wc := ⟨wc, rfl⟩
        subst hwb
        obtain ⟨mb, M, S1, rfl, hto, hS1, hmw, hqx, hbr⟩ := hcut
        clear HN c12 c0 c19 c20 hnl1 n19
        have HT : Hid (Touch (here S w) wa wb ∧ (∀ i, S1 i → grow (here S w) wa wb i ∧ i ≠ mb) ∧ wa.heap.size ≤ mb) := ⟨hto, hS1, hmw⟩
        have HX : Hid (QX S1 wb wb F Dd (c + 5) r' ab cap L (Phi F r' No Hd) mb M) := hqx
        have HM : Hid (Bare F.id M) := hbr
        clear hto hS1 hmw hbr
        obtain ⟨⟨N1, G1, pid1, P1, K1, hn1⟩, -⟩ := hqx
        obtain ⟨b21, c21⟩ := hn1.cb 21 (by omega) rfl
        have f21 := hn1.fz 21
        have hnl1 := World.rowIs.lt hn1.nrow
        clear hn1
        have HX9 : Hid (QX S1 wb (wb.setCell ⟨F.nb, 21, none⟩ (.bool false)) F Dd (c + 5) r' ab cap L (Phi F r' No Hd) mb M) := HX.out.setP 21 _ (by simp) (Ty.mkb _)
        go_upto_region 10 with fail
        go_cut [4] (fun s wd => ∃ p n cp zd, s = .slice p n cp ∧ n ≤ 5 ∧ 0 ≤ zd ∧ wd.cell? ⟨F.nb, 10, none⟩ = some (.int .u64 zd) ∧ QX S1 wb wd F Dd (c + 5) r' ab cap L (Phi F r' No Hd) mb M)
        case first =>
          go_wp2_with (go_at_call 33; refine (held_any HX9.out.1).mono ?_; rintro e w3 ⟨v, rfl, hg3, he3⟩)
          obtain ⟨xs, hx1, hx2, hx3, hx4⟩ := he3
          obtain ⟨p9, cp9, e9, -, -⟩ := entries_at hx1
          subst e9
          have HX3 := HX9.out.next hg3
          obtain ⟨⟨N3, G3, pid3, P3, K3, hn3⟩, -⟩ := id HX3
          obtain ⟨zd, hzd, c10⟩ := hn3.cu 10 (by omega) rfl
          go_meet
          case rel => exact ⟨p9, xs.length, cp9, zd, rfl, hx3, hzd, c10, HX3⟩
        case rest =>
          obtain ⟨p, n, cp, zd, rfl, hn5, hzd, c10, hqx⟩ := hcut
          clear HX HX9 c21 f21 hnl1
          have HX : Hid (QX S1 wb wc F Dd (c + 5) r' ab cap L (Phi F r' No Hd) mb M) := hqx
          obtain ⟨⟨N1, G1, pid1, P1, K1, hn1⟩, -, hrow, -, -⟩ := hqx
          have hnl1 := World.rowIs.lt hn1.nrow
          have hml1 := World.rowIs.lt hrow
          obtain ⟨k, rd, wt, su, ho, di, -, -, -, -, -, e5, e6, -⟩ := HM.out.1
          have c5 : wc.cell? ⟨mb, 5, none⟩ = some (.int .u64 ho) := by rw [← e5]; exact World.rowIs.cell hrow (by omega)
          have c6 : wc.cell? ⟨mb, 6, none⟩ = some (.int .u64 di) := by rw [← e6]; exact World.rowIs.cell hrow (by omega)
          have f5 := World.rowIs.frozen hrow 5
          have f6 := World.rowIs.frozen hrow 6
          clear hn1 hrow e5 e6
          go_upto_if 77 with fail
          go_cut [86] (fun _ wd => ∃ M', QX S1 wb wd F Dd (c + 5) r' ab cap L (Phi F r' No Hd) mb M' ∧ Bare F.id M')
          case first =>
            by_cases hn0 : n = 0
            · subst hn0
              go_wp2_with fail
              go_meet
              case rel => exact ⟨M, HX.out, HM.out⟩
            · have hpos : 0 < n := by omega
              go_wp2_with fail
              go_meet
              case rel => exact ⟨_, (HX.out.setM 5 _).setM 6 _, HM.out.put56 (by first | omega | exact wrap_nn _) hzd⟩
          case rest =>
            obtain ⟨M', hqx, hbr⟩ := hcut
            clear HX HM c5 c6 f5 f6 hnl1 hml1 c10
            have HX : Hid (QX S1 wb wc F Dd (c + 5) r' ab cap L (Phi F r' No Hd) mb M') := hqx
            have HM : Hid (Bare F.id M') := hbr
            obtain ⟨⟨N1, G1, pid1, P1, K1, hn1⟩, -, hrow, -, -⟩ := hqx
            clear hbr
            obtain ⟨b14, c14⟩ := hn1.cb 14 (by omega) rfl
            obtain ⟨z15, -, c15⟩ := hn1.cu 15 (by omega) rfl
            obtain ⟨z23, -, c23⟩ := hn1.cu 23 (by omega) rfl
            have hnl1 := World.rowIs.lt hn1.nrow
            have hml1 := World.rowIs.lt hrow
            clear hn1 hrow
            go_upto_region 13 with fail
            go_cut [106] (fun _ wd => ∃ M', QX S1 wb wd F Dd (c + 5) r' ab cap L (Phi F r' No Hd) mb M' ∧ Head F.id M' ∧ Entries (grow S1 wb wd) wd Dd (M' 7) ∧ M' 8 = .slice none 0 0 ∧ M' 9 = .slice none 0 0)
            case first =>
              cases b14
              · go_region_with (first
                  | (go_at_call 34; refine (ones_any _ _).mono ?_; rintro e w' ⟨z, rfl, rfl⟩)
                  | (go_at_call 28; refine (pass_any (HX.out.drewN 1).1 _).mono ?_; rintro e w3 ⟨v, rfl, hg3, he3⟩; have HX3 := hide0 ((HX.out.drewN 1).next hg3); have HE3 := hide0 (he3.mono (fun _ e => grow_trans (HX.out.drewN 1).2.1.size hg3.2.size e) (fun _ e => e)); obtain ⟨xs, hx1, -⟩ := he3; obtain ⟨p9, cp9, e9, -, -⟩ := entries_at hx1; subst e9; have m7 := World.rowIs.cell HX3.out.2.2.1 (i := 7) (by omega); have mf7 := World.rowIs.frozen HX3.out.2.2.1 7; have hml3 := World.rowIs.lt HX3.out.2.2.1; clear hx1 hg3))
                all_goals (try go_wp2_with fail)
                all_goals go_meet
                all_goals exact QX.pairs HX3.out HM.out HE3.out
              · refine wp_region_any (by kernel_rfl) ?_
                try (change wpAny _ _ _ _ _ _ _ (World.drew _))
                refine wpAny_take (i := 0) (v := .pointer (some ⟨F.nb, 0, none⟩)) rfl (by kernel_rfl) (by kernel_rfl) (by kernel_rfl) (fun _ _ _ h => h) (Or.inl ⟨by rfl, fun w => by go_simp⟩) ?_
                refine wpAny_take (i := 1) (v := .pointer (some ⟨F.nb, 0, none⟩)) rfl (by kernel_rfl) (by kernel_rfl) (by kernel_rfl) (fun _ _ _ h => h) (Or.inl ⟨by rfl, fun w => by go_simp⟩) ?_
                refine wpAny_take (i := 2) (v := .pointer (some ⟨F.nb, 0, none⟩)) rfl (by kernel_rfl) (by kernel_rfl) (by kernel_rfl) (fun _ _ _ h => h) (Or.inl ⟨by rfl, fun w => by go_simp⟩) ?_
                refine wpAny_take (i := 3) (v := .pointer (some ⟨F.nb, 14, none⟩)) rfl (by kernel_rfl) (by kernel_rfl) (by kernel_rfl) (fun _ _ _ h => h) (Or.inl ⟨by rfl, fun w => by go_simp⟩) ?_
                refine wpAny_ready (rs := [4]) (by kernel_rfl) (by simp) ?_
                refine AllReady.cons rfl (fun K hK => ?_) AllReady.nil
                go_simp
                refine hK _ _ ?_
                clear hK K
                refine wpAny_take (i := 5) (v := .bool true) rfl (by kernel_rfl) (by kernel_rfl) (by kernel_rfl) (fun _ _ _ h => h) (Or.inl ⟨by rfl, fun w => by go_simp⟩) ?_
                refine wpAny_take (i := 6) (v := undef) rfl (by kernel_rfl) (by kernel_rfl) (by kernel_rfl) (fun _ _ _ h => h) (Or.inr ⟨by kernel_rfl, rfl⟩) ?_
                refine wpAny_take (i := 7) (v := undef) rfl (by kernel_rfl) (by kernel_rfl) (by kernel_rfl) (fun _ _ _ h => h) (Or.inr ⟨by kernel_rfl, rfl⟩) ?_
                refine wpAny_take (i := 8) (v := undef) rfl (by kernel_rfl) (by kernel_rfl) (by kernel_rfl) (fun _ _ _ h => h) (Or.inr ⟨by kernel_rfl, rfl⟩) ?_
                refine wpAny_take (i := 9) (v := undef) rfl (by kernel_rfl) (by kernel_rfl) (by kernel_rfl) (fun _ _ _ h => h) (Or.inr ⟨by kernel_rfl, rfl⟩) ?_
                refine wpAny_take (i := 10) (v := undef) rfl (by kernel_rfl) (by kernel_rfl) (by kernel_rfl) (fun _ _ _ h => h) (Or.inr ⟨by kernel_rfl, rfl⟩) ?_
                refine wpAny_take (i := 11) (v := undef) rfl (by kernel_rfl) (by kernel_rfl) (by kernel_rfl) (fun _ _ _ h => h) (Or.inr ⟨by kernel_rfl, rfl⟩) ?_
                refine wpAny_take (i := 12) (v := undef) rfl (by kernel_rfl) (by kernel_rfl) (by kernel_rfl) (fun _ _ _ h => h) (Or.inr ⟨by kernel_rfl, rfl⟩) ?_
                refine wpAny_take (i := 13) (v := undef) rfl (by kernel_rfl) (by kernel_rfl) (by kernel_rfl) (fun _ _ _ h => h) (Or.inr ⟨by kernel_rfl, rfl⟩) ?_
                refine wpAny_take (i := 14) (v := undef) rfl (by kernel_rfl) (by kernel_rfl) (by kernel_rfl) (fun _ _ _ h => h) (Or.inr ⟨by kernel_rfl, rfl⟩) ?_
                refine wpAny_take (i := 15) (v := undef) rfl (by kernel_rfl) (by kernel_rfl) (by kernel_rfl) (fun _ _ _ h => h) (Or.inr ⟨by kernel_rfl, rfl⟩) ?_
                refine wpAny_take (i := 16) (v := undef) rfl (by kernel_rfl) (by kernel_rfl) (by kernel_rfl) (fun _ _ _ h => h) (Or.inr ⟨by kernel_rfl, rfl⟩) ?_
                refine wpAny_take (i := 17) (v := .bool true) rfl (by kernel_rfl) (by kernel_rfl) (by kernel_rfl) (fun _ _ _ h => h) (Or.inl ⟨by rfl, fun w => by go_simp⟩) ?_
                refine wpAny_ready (rs := [18]) (by kernel_rfl) (by simp) ?_
                refine AllReady.cons rfl (fun K hK => ?_) AllReady.nil
                go_simp
                go_wp2_with (go_at_call 28; refine (pass_any (HX.out.drewN 1).1 _).mono ?_; rintro e w3 ⟨v, rfl, hg3, he3⟩; have HX3 := hide0 ((HX.out.drewN 1).next hg3); have HE3 := hide0 (he3.mono (fun _ e => grow_trans (HX.out.drewN 1).2.1.size hg3.2.size e) (fun _ e => e)); obtain ⟨xs, hx1, -⟩ := he3; obtain ⟨p9, cp9, e9, -, -⟩ := entries_at hx1; subst e9; have m7 := World.rowIs.cell HX3.out.2.2.1 (i := 7) (by omega); have mf7 := World.rowIs.frozen HX3.out.2.2.1 7; have hml3 := World.rowIs.lt HX3.out.2.2.1; clear hx1 hg3)
                refine wpAny_take (i := 19) (v := .pointer (some ⟨mb, 7, none⟩)) rfl (by kernel_rfl) (by kernel_rfl) (by kernel_rfl) (fun _ _ _ h => h) (Or.inl ⟨by kernel_rfl, fun w => by go_simp⟩) ?_
                refine wpAny_ready (rs := [20]) (by kernel_rfl) (by simp) ?_
                refine AllReady.cons rfl (fun K hK => ?_) AllReady.nil
                go_simp
                refine hK _ _ ?_
                clear hK K
                refine wpAny_done (by kernel_rfl) ?_ _
                go_wp2_with fail
                go_meet
                exact QX.pairs HX3.out HM.out HE3.out
            case rest =>
              obtain ⟨M2, hqx, hhd, hen, hm8, hm9⟩ := hcut
              clear HX HM c14 c15 c23 hnl1 hml1
              have HX : Hid (QX S1 wb wc F Dd (c + 5) r' ab cap L (Phi F r' No Hd) mb M2) := hqx
              have HM : Hid (Head F.id M2 ∧ Entries (grow S1 wb wc) wc Dd (M2 7) ∧ M2 8 = .slice none 0 0 ∧ M2 9 = .slice none 0 0) := ⟨hhd, hen, hm8, hm9⟩
              clear hqx hhd hen hm8 hm9
              go_upto_region 15 with (go_at_call 29; refine (answer_any HX.out.1 hc HX.out.2.2.1 HX.out.out HM.out.2.2.1 HM.out.2.2.2).mono ?_; intro e w4 hans; obtain ⟨M4, hq4, hm4⟩ := HX.out.ans hans HM.out.1 HM.out.2.1; obtain ⟨rfl, -⟩ := hans; have HX4 := hide0 hq4; have HM4 := hide0 hm4; clear hq4 hm4)
              obtain ⟨M5, xa, rs, he5, ⟨k5, rd5, wt5, su5, ho5, di5, h50, h51, h52, h53, h54, h55, h56, -⟩, ⟨xs7, hx7, -⟩, h58, h59, -⟩ := HM4.out
              obtain ⟨p7, q7, e57, -, -⟩ := entries_at hx7
              obtain ⟨p8, q8, e58, -, -⟩ := own_at h58
              obtain ⟨p9, q9, e59, -, -⟩ := own_at h59
              simp only [aggOf, Value.agg.injEq, Array.mk.injEq, List.cons.injEq, and_true] at he5
              obtain ⟨i0, i1, i2, i3, i4, i5, i6, i7, i8, i9⟩ := he5
              have hrow := HX4.out.2.2.1
              have m0 := World.rowIs.cell hrow (i := 0) (by omega)
              have m1 := World.rowIs.cell hrow (i := 1) (by omega)
              have m2 := World.rowIs.cell hrow (i := 2) (by omega)
              have m3 := World.rowIs.cell hrow (i := 3) (by omega)
              have m4 := World.rowIs.cell hrow (i := 4) (by omega)
              have m5 := World.rowIs.cell hrow (i := 5) (by omega)
              have m6 := World.rowIs.cell hrow (i := 6) (by omega)
              have m7 := World.rowIs.cell hrow (i := 7) (by omega)
              have m8 := World.rowIs.cell hrow (i := 8) (by omega)
              have m9 := World.rowIs.cell hrow (i := 9) (by omega)
              have HAG : Hid (aggOf M4 = .agg #[.int .u8 k5, .string (idb F.id), .int .u64 rd5, .int .u64 wt5, .bool su5, .int .u64 ho5, .int .u64 di5, .slice p7 xs7.length q7, .slice p8 xa.length q8, .slice p9 rs.length q9]) := by
                show aggOf M4 = _
                unfold aggOf
                rw [i0, i1, i2, i3, i4, i5, i6, i7, i8, i9, h50, h51, h52, h53, h54, h55, h56, e57, e58, e59]
              rw [i0, h50] at m0
              rw [i1, h51] at m1
              rw [i2, h52] at m2
              rw [i3, h53] at m3
              rw [i4, h54] at m4
              rw [i5, h55] at m5
              rw [i6, h56] at m6
              rw [i7, e57] at m7
              rw [i8, e58] at m8
              rw [i9, e59] at m9
              have hml4 := World.rowIs.lt hrow
              have hrr : w4.rowIs w.heap.size 44 10 (fun i => z44.getD i undef) := by
                have hwa := HW.out.1
                have b1 := HT.out.1.block w.heap.size (by omega) (fun e => by have := e.2; omega)
                have hsz := HT.out.1.size
                have b2 := HX4.out.2.1.block w.heap.size (by omega) (fun e => by
                  rcases e with e | e
                  · rcases (HT.out.2.1 _ e).1 with e | e
                    · have := e.2; omega
                    · omega
                  · have := HT.out.2.2; omega)
                exact HR.out.of_block (b2.trans b1)
              have HRR := hide0 hrr
              have r0 := World.rowIs.cell hrr (i := 0) (by omega)
              have r1 := World.rowIs.cell hrr (i := 1) (by omega)
              have r2 := World.rowIs.cell hrr (i := 2) (by omega)
              have r3 := World.rowIs.cell hrr (i := 3) (by omega)
              have r4 := World.rowIs.cell hrr (i := 4) (by omega)
              have r5 := World.rowIs.cell hrr (i := 5) (by omega)
              have r6 := World.rowIs.cell hrr (i := 6) (by omega)
              have r7 := World.rowIs.cell hrr (i := 7) (by omega)
              have r8 := World.rowIs.cell hrr (i := 8) (by omega)
              have r9 := World.rowIs.cell hrr (i := 9) (by omega)
              have rf := World.rowIs.frozen hrr
              have hrl := World.rowIs.lt hrr
              simp only [z44, Array.getD] at r0 r1 r2 r3 r4 r5 r6 r7 r8 r9
              clear hrr hrow hx7 h58 h59 i0 i1 i2 i3 i4 i5 i6 i7 i8 i9 h50 h51 h52 h53 h54 h55 h56 e57 e58 e59
              go_wp2_with fail
              have HF := Qry.done HW.out.1 HW.out.2 HT.out.1 HT.out.2.1 HT.out.2.2 HX4.out HM4.out HAG.out HRR.out
              refine bodyPost_ret (results_cell_row rfl _ _ w.heap.size 44 _ (0, 0) _ rfl HF.1 Try.underlying44 rfl size44) rfl ?_
              exact ⟨_, r', rfl, hr', HF.2⟩
end Go.Proofs.Qxb6002353a
