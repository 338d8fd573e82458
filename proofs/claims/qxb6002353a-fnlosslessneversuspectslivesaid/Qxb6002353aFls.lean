import Derived.Test.Qxb6002353aTen
import Derived.Deep.DeepCutAuto
import Derived.Deep.RegionWith
import Derived.BigQuiet
namespace Go.Proofs.Qxb6002353a
open Go.RowKit Go.Maps

def zz44 : Array Value := #[.int .u8 0, .string ByteArray.empty, .int .u64 0, .int .u64 0, .bool false, .int .u64 0, .int .u64 0, .slice none 0 0, .slice none 0 0, .slice none 0 0]

def FlsPost (S : Nat → Prop) (w : World) (F : Fx) (Dd : UInt8 → Prop) (c : Nat) (r : Int) (ab cap : Nat) (L : List Nat) (φ : Nat → UInt8 → Value → Value → Value → Prop) (e : Ending) (w' : World) : Prop :=
  ∃ v b, e = .returned (.tuple #[v, .bool b]) ∧ NG S w w' F Dd c r ab cap L φ ∧ (b = true → MsgOK (grow S w w') w' Dd F.id v) ∧ (b = false → v = .agg zz44)

theorem row_of' (c : Array Value) : ∀ i, i < c.size → c[i]? = some (c.getD i undef) := fun i hi => by simp [Array.getD, hi]

theorem zcells {w : World} {b : Nat} (h : w.rowIs b 44 10 (fun i => zz44.getD i undef)) :
    w.cell? ⟨b, 0, none⟩ = some (.int .u8 0) ∧ w.cell? ⟨b, 1, none⟩ = some (.string ByteArray.empty) ∧ w.cell? ⟨b, 2, none⟩ = some (.int .u64 0) ∧ w.cell? ⟨b, 3, none⟩ = some (.int .u64 0) ∧ w.cell? ⟨b, 4, none⟩ = some (.bool false) ∧ w.cell? ⟨b, 5, none⟩ = some (.int .u64 0) ∧ w.cell? ⟨b, 6, none⟩ = some (.int .u64 0) ∧ w.cell? ⟨b, 7, none⟩ = some (.slice none 0 0) ∧ w.cell? ⟨b, 8, none⟩ = some (.slice none 0 0) ∧ w.cell? ⟨b, 9, none⟩ = some (.slice none 0 0) :=
  ⟨World.rowIs.cell h (i := 0) (by omega), World.rowIs.cell h (i := 1) (by omega), World.rowIs.cell h (i := 2) (by omega), World.rowIs.cell h (i := 3) (by omega), World.rowIs.cell h (i := 4) (by omega), World.rowIs.cell h (i := 5) (by omega), World.rowIs.cell h (i := 6) (by omega), World.rowIs.cell h (i := 7) (by omega), World.rowIs.cell h (i := 8) (by omega), World.rowIs.cell h (i := 9) (by omega)⟩

theorem Head.put34 {u : UInt8} {M : Nat → Value} (h : Head u M) (z : Int) (hz : 0 ≤ z) (b : Bool) : Head u (Qxb6002353a.put (Qxb6002353a.put M 3 (.int .u64 z)) 4 (.bool b)) := by
  obtain ⟨k, rd, wt, su, ho, di, h0, h1, h2, h3, h4, h5, h6, h7, h8, h9, h10, h11⟩ := h
  refine ⟨k, rd, z, b, ho, di, ?_, ?_, ?_, ?_, put_same _ _ _, ?_, ?_, h7, h8, hz, h10, h11⟩
  · rw [put_other _ _ _ _ (by decide), put_other _ _ _ _ (by decide)]; assumption
  · rw [put_other _ _ _ _ (by decide), put_other _ _ _ _ (by decide)]; assumption
  · rw [put_other _ _ _ _ (by decide), put_other _ _ _ _ (by decide)]; assumption
  · rw [put_other _ _ _ _ (by decide), put_same]
  · rw [put_other _ _ _ _ (by decide), put_other _ _ _ _ (by decide)]; assumption
  · rw [put_other _ _ _ _ (by decide), put_other _ _ _ _ (by decide)]; assumption

/-- a message whose pairs are filled in, and whose answers are not yet -/
def Half (S : Nat → Prop) (w : World) (Dd : UInt8 → Prop) (u : UInt8) (M : Nat → Value) : Prop := Head u M ∧ Entries S w Dd (M 7) ∧ M 8 = .slice none 0 0 ∧ M 9 = .slice none 0 0

section
variable {S : Nat → Prop} {wb wd : World} {F : Fx} {Dd : UInt8 → Prop} {c : Nat} {r : Int} {ab cap : Nat} {L : List Nat} {φ : Nat → UInt8 → Value → Value → Value → Prop} {mb : Nat} {M : Nat → Value}

theorem QX.set10 (h : QX S wb wd F Dd c r ab cap L φ mb M) (v0 v1 v2 v3 v4 v5 v6 v7 v8 v9 : Value) : QX S wb (set10 wd mb v0 v1 v2 v3 v4 v5 v6 v7 v8 v9) F Dd c r ab cap L φ mb (fun i => #[v0, v1, v2, v3, v4, v5, v6, v7, v8, v9].getD i undef) := by
  have g := set10_grown wd mb v0 v1 v2 v3 v4 v5 v6 v7 v8 v9
  have gz := set10_size wd mb v0 v1 v2 v3 v4 v5 v6 v7 v8 v9
  have ho := h.out
  have hrow := set10_row h.2.2.1 v0 v1 v2 v3 v4 v5 v6 v7 v8 v9
  obtain ⟨⟨N, G, pid, P, K, hn⟩, ht, hr, h1, h2⟩ := h
  refine ⟨⟨_, _, _, _, _, (hn.far g (fun k e hk => by cases e; exact ho hk)).mono (fun i hi => grow_mono (by omega) hi) (fun _ e => e) hn.dnm (Nat.le_refl _) (fun _ _ e => e)⟩, ht.grown g (fun k e => by cases e; exact .inl (.inr rfl)), ⟨_, hrow, rfl, row_of' #[v0, v1, v2, v3, v4, v5, v6, v7, v8, v9]⟩, h1, h2⟩

theorem QX.news (hx : QX S wb wd F Dd c r ab cap L φ mb M) {v : Value} (he : Entries (grow S wb wd) wd Dd v) (u : UInt8) :
    ∃ M', QX S wb (Qxb6002353a.set10 wd mb (.int .u8 3) (.string (idb u)) (.int .u64 0) (.int .u64 0) (.bool false) (.int .u64 0) (.int .u64 0) v (.slice none 0 0) (.slice none 0 0)) F Dd c r ab cap L φ mb M' ∧
      Half (grow S wb (Qxb6002353a.set10 wd mb (.int .u8 3) (.string (idb u)) (.int .u64 0) (.int .u64 0) (.bool false) (.int .u64 0) (.int .u64 0) v (.slice none 0 0) (.slice none 0 0))) (Qxb6002353a.set10 wd mb (.int .u8 3) (.string (idb u)) (.int .u64 0) (.int .u64 0) (.bool false) (.int .u64 0) (.int .u64 0) v (.slice none 0 0) (.slice none 0 0)) Dd u M' := by
  refine ⟨_, hx.set10 _ _ _ _ _ _ _ _ _ _, ⟨3, 0, 0, false, 0, 0, rfl, rfl, rfl, rfl, rfl, rfl, rfl, .inr rfl, Int.le_refl _, Int.le_refl _, Int.le_refl _, Int.le_refl _⟩, ?_, rfl, rfl⟩
  show Entries _ _ Dd v
  refine (he.kept (set10_grown wd mb _ _ _ _ _ _ _ _ _ _) (fun g hg e => ?_)).mono (fun i hi => grow_mono (by rw [set10_size]; exact Nat.le_refl _) hi) (fun _ e => e)
  cases e
  have h1 := he.tag hg
  rw [tag_row hx.2.2.1] at h1
  cases h1

theorem QX.tell (hx : QX S wb wd F Dd c r ab cap L φ mb M) {u : UInt8} (hh : Half (grow S wb wd) wd Dd u M) (z : Int) (hz : 0 ≤ z) :
    ∃ M', QX S wb (((wd.setCell ⟨mb, 3, none⟩ (.int .u64 z)).setCell ⟨mb, 4, none⟩ (.bool true)).setCell ⟨F.nb, 21, none⟩ (.bool false)) F Dd c r ab cap L φ mb M' ∧
      Half (grow S wb (((wd.setCell ⟨mb, 3, none⟩ (.int .u64 z)).setCell ⟨mb, 4, none⟩ (.bool true)).setCell ⟨F.nb, 21, none⟩ (.bool false))) (((wd.setCell ⟨mb, 3, none⟩ (.int .u64 z)).setCell ⟨mb, 4, none⟩ (.bool true)).setCell ⟨F.nb, 21, none⟩ (.bool false)) Dd u M' := by
  have x1 := hx.setM 3 (.int .u64 z)
  have x2 := x1.setM 4 (.bool true)
  obtain ⟨hd, he, h8, h9⟩ := hh
  refine ⟨_, x2.setP 21 (.bool false) (by simp) (Ty.mkb _), hd.put34 z hz true, ?_, ?_, ?_⟩
  · rw [put_other _ _ _ _ (by decide), put_other _ _ _ _ (by decide)]
    have e2 := (he.setM hx.2.2.1 3 (.int .u64 z)).setM x1.2.2.1 4 (.bool true)
    refine (e2.kept (grownBy_setCell _ ⟨F.nb, 21, none⟩ (.bool false)) (fun g hg e => ?_)).mono (fun i hi => grow_mono (by simp [World.setCell]) hi) (fun _ e => e)
    cases e
    have h1 := e2.tag hg
    obtain ⟨⟨N, G, pid, P, K, hn⟩, -⟩ := x2
    rw [tag_row hn.nrow] at h1
    cases h1
  · rw [put_other _ _ _ _ (by decide), put_other _ _ _ _ (by decide)]; exact h8
  · rw [put_other _ _ _ _ (by decide), put_other _ _ _ _ (by decide)]; exact h9
end

theorem res_cell_tmp {P : Program} {fn : Func} {p u : Tmp} {ty : TypeId} (h : fn.results = #[.cell p ty, .tmp u]) (tmps : Array Value) (w : World) (g : Nat) (t : TypeId) (cs : Array Value) (fr : Nat × Nat) (d : TypeDesc)
    (hp : tmps.getD p undef = .pointer (some ⟨g, 0, none⟩)) (hg : w.heap[g]? = some (.cells cs t fr))
    (hu : P.underlying ty = some d) (hd : (match d with | .struct _ | .array _ _ => true | _ => false) = true) (hi : (P.info? ty).map (·.size) = some cs.size) :
    (results fn tmps).run P w = .ok (.tuple #[.agg cs, tmps.getD u undef]) w := by
  rw [results_cell_tmp h, hp]
  simp [asAddr, run_loadVar_row w g t ty cs fr d hg hu hd hi, Result.andThen]

theorem Fls.done {S : Nat → Prop} {w wa w4 : World} {F : Fx} {Dd : UInt8 → Prop} {c : Nat} {r : Int} {ab cap : Nat} {L : List Nat} {φ : Nat → UInt8 → Value → Value → Value → Prop} {M : Nat → Value} {v0 v1 v2 v3 v4 v5 v6 v7 v8 v9 : Value}
    (hwa : wa.heap.size = w.heap.size + 1) (hta : Touch (here S w) w wa) (hx : QX (here S w) wa w4 F Dd c r ab cap L φ w.heap.size M) :
    (set10 w4 w.heap.size v0 v1 v2 v3 v4 v5 v6 v7 v8 v9).heap[w.heap.size]? = some (.cells #[v0, v1, v2, v3, v4, v5, v6, v7, v8, v9] 44 (0, 0)) ∧
    NG S w (set10 w4 w.heap.size v0 v1 v2 v3 v4 v5 v6 v7 v8 v9) F Dd c r ab cap L φ ∧ (∀ {u : UInt8}, MsgOK (grow (here S w) wa w4) w4 Dd u (aggOf M) → MsgOK (grow S w (set10 w4 w.heap.size v0 v1 v2 v3 v4 v5 v6 v7 v8 v9)) (set10 w4 w.heap.size v0 v1 v2 v3 v4 v5 v6 v7 v8 v9) Dd u (aggOf M)) := by
  have g := set10_grown w4 w.heap.size v0 v1 v2 v3 v4 v5 v6 v7 v8 v9
  have gz := set10_size w4 w.heap.size v0 v1 v2 v3 v4 v5 v6 v7 v8 v9
  have s2 := hx.2.1.size
  have hno := hx.out
  have hS : ∀ i, grow (here S w) wa w4 i → grow S w (set10 w4 w.heap.size v0 v1 v2 v3 v4 v5 v6 v7 v8 v9) i := by
    intro i hi
    rcases hi with hi | hi
    · exact .inl hi.1
    · exact .inr ⟨by omega, by omega⟩
  refine ⟨set10_row hx.2.2.1 _ _ _ _ _ _ _ _ _ _, ⟨?_, ?_⟩, fun hm => (hm.kept g (fun k e hk => by cases e; exact hno hk)).mono hS (fun _ e => e)⟩
  · obtain ⟨⟨N, G, pid, P, K, hn⟩, -⟩ := hx
    exact ⟨_, _, _, _, _, (hn.far g (fun k e hk => by cases e; exact hno hk)).mono hS (fun _ e => e) hn.dnm (Nat.le_refl _) (fun _ _ e => e)⟩
  · have t2 : Touch S w w4 := (hta.mono (fun i hi => hi.1)).trans (hx.2.1.mono fun i hi => by
      rcases hi with hi | hi
      · exact .inl hi.1
      · exact .inr ⟨by omega, by omega⟩)
    exact t2.grown g (fun k e => by cases e; exact .inr ⟨by omega, by omega⟩)

set_option maxHeartbeats 16000000 in
set_option maxRecDepth 100000 in
theorem flush_any {S : Nat → Prop} {w : World} {F : Fx} {Dd : UInt8 → Prop} {c : Nat} {r : Int} {ab cap : Nat} {L : List Nat} {φ : Nat → UInt8 → Value → Value → Value → Prop} (h : NodeOK S w F Dd c r ab cap L φ) (hc : c ≤ 1000000) :
    Calls Try.prog 14 #[.pointer (some ⟨F.nb, 0, none⟩)] w (FlsPost S w F Dd c r ab cap L φ) := by
  have hA : NodeOK (here S w) (w.alloc (.cells zz44 44)) F Dd c r ab cap L φ := h.restrict.alloc _
  have HX : Hid (QX (here S w) (w.alloc (.cells zz44 44)) (w.alloc (.cells zz44 44)) F Dd c r ab cap L φ w.heap.size (fun i => zz44.getD i undef)) :=
    ⟨hA.monoS (fun _ e => .inl e), Touch.refl _ _, World.rowIs_alloc w zz44 44 _ (row_of' _), fun e => Nat.lt_irrefl _ e.2, by simp⟩
  have HW : Hid ((w.alloc (.cells zz44 44)).heap.size = w.heap.size + 1 ∧ Touch (here S w) w (w.alloc (.cells zz44 44))) := ⟨by simp, (Touch.refl _ _).alloc _⟩
  clear h hA
  go_enter Try.func14, Try.ntmps14
  go_upto_region 1 with fail
  replace HX : Hid (QX (here S w) (w.alloc (.cells #[.int .u8 0, .string ⟨#[]⟩, .int .u64 0, .int .u64 0, .bool false, .int .u64 0, .int .u64 0, .slice none 0 0, .slice none 0 0, .slice none 0 0] 44)) (w.alloc (.cells #[.int .u8 0, .string ⟨#[]⟩, .int .u64 0, .int .u64 0, .bool false, .int .u64 0, .int .u64 0, .slice none 0 0, .slice none 0 0, .slice none 0 0] 44)) F Dd c r ab cap L φ w.heap.size (fun i => zz44.getD i undef)) := HX
  replace HW : Hid ((w.alloc (.cells #[.int .u8 0, .string ⟨#[]⟩, .int .u64 0, .int .u64 0, .bool false, .int .u64 0, .int .u64 0, .slice none 0 0, .slice none 0 0, .slice none 0 0] 44)).heap.size = w.heap.size + 1 ∧ Touch (here S w) w (w.alloc (.cells #[.int .u8 0, .string ⟨#[]⟩, .int .u64 0, .int .u64 0, .bool false, .int .u64 0, .int .u64 0, .slice none 0 0, .slice none 0 0, .slice none 0 0] 44))) := HW
  generalize w.alloc (.cells #[.int .u8 0, .string ⟨#[]⟩, .int .u64 0, .int .u64 0, .bool false, .int .u64 0, .int .u64 0, .slice none 0 0, .slice none 0 0, .slice none 0 0] 44) = wa at HX HW ⊢
  obtain ⟨⟨N1, G1, pid1, P1, K1, hn1⟩, -⟩ := HX.out
  have c0 : wa.cell? ⟨F.nb, 0, none⟩ = some (.string (idb F.id)) := by rw [← hn1.n0]; exact World.rowIs.cell hn1.nrow (by omega)
  obtain ⟨b14, c14⟩ := hn1.cb 14 (by omega) rfl
  have hnl1 := World.rowIs.lt hn1.nrow
  clear hn1
  go_cut [14] (fun _ wd => ∃ M, QX (here S w) wa wd F Dd c r ab cap L φ w.heap.size M ∧ Half (grow (here S w) wa wd) wd Dd F.id M)
  case first =>
    go_region_with (go_at_call 28; refine (pass_any (HX.out.drewN 1).1 _).mono ?_; rintro e w3 ⟨v, rfl, hg3, he3⟩; have HX3 := hide0 ((HX.out.drewN 1).next hg3); have HE3 := hide0 (he3.mono (fun _ e => grow_trans (HX.out.drewN 1).2.1.size hg3.2.size e) (fun _ e => e)); obtain ⟨xs, hx1, -⟩ := he3; obtain ⟨p9, cp9, e9, -, -⟩ := entries_at hx1; subst e9; obtain ⟨m0, m1, m2, m3, m4, m5, m6, m7, m8, m9⟩ := zcells HX3.out.2.2.1; have mf := World.rowIs.frozen HX3.out.2.2.1; have hml3 := World.rowIs.lt HX3.out.2.2.1; obtain ⟨⟨N3, G3, pid3, P3, K3, hn3⟩, -⟩ := id HX3.out; have c03 := (World.rowIs.cell hn3.nrow (i := 0) (by omega)).trans (congrArg some hn3.n0); have hnl3 := World.rowIs.lt hn3.nrow; clear hx1 hg3 hn3)
    all_goals (try go_wp2_with fail)
    all_goals go_meet
    all_goals exact QX.news HX3.out HE3.out F.id
  case rest =>
    obtain ⟨M1, hqx, hhalf⟩ := hcut
    clear HX c0 c14 hnl1
    have HX : Hid (QX (here S w) wa wc F Dd c r ab cap L φ w.heap.size M1) := hqx
    have HM : Hid (Half (grow (here S w) wa wc) wc Dd F.id M1) := hhalf
    obtain ⟨⟨N1, G1, pid1, P1, K1, hn1⟩, -, hrow, -, -⟩ := hqx
    obtain ⟨b21, c21⟩ := hn1.cb 21 (by omega) rfl
    have f21 := hn1.fz 21
    obtain ⟨z19, n19, c19⟩ := hn1.cu 19 (by omega) rfl
    obtain ⟨k, rd, wt, su, ho, di, -, -, -, e3, e4, -⟩ := hhalf.1
    have m3 : wc.cell? ⟨w.heap.size, 3, none⟩ = some (.int .u64 wt) := by rw [← e3]; exact World.rowIs.cell hrow (by omega)
    have m4 : wc.cell? ⟨w.heap.size, 4, none⟩ = some (.bool su) := by rw [← e4]; exact World.rowIs.cell hrow (by omega)
    have mf := World.rowIs.frozen hrow
    have hnl1 := World.rowIs.lt hn1.nrow
    have hml1 := World.rowIs.lt hrow
    have hne : F.nb ≠ w.heap.size := fun e => by
      have h1 := tag_row hrow
      rw [← e, tag_row hn1.nrow] at h1
      cases h1
    clear hn1 hrow hhalf e3 e4
    go_upto_if 18 with fail
    go_cut [27] (fun _ wd => ∃ M, QX (here S w) wa wd F Dd c r ab cap L φ w.heap.size M ∧ Half (grow (here S w) wa wd) wd Dd F.id M)
    case first =>
      cases b21
      · go_wp2_with fail
        go_meet
        case rel => exact ⟨M1, HX.out, HM.out⟩
      · go_wp2_with fail
        go_meet
        case rel => exact QX.tell HX.out HM.out z19 n19
    case rest =>
      obtain ⟨M2, hqx, hhalf⟩ := hcut
      clear HX HM c21 f21 c19 m3 m4 mf hnl1 hml1 hne
      have HX : Hid (QX (here S w) wa wc F Dd c r ab cap L φ w.heap.size M2) := hqx
      have HM : Hid (Half (grow (here S w) wa wc) wc Dd F.id M2) := hhalf
      clear hqx hhalf
      go_upto_region 6 with (go_at_call 29; refine (answer_any HX.out.1 hc HX.out.2.2.1 HX.out.out HM.out.2.2.1 HM.out.2.2.2).mono ?_; intro e w4 hans; obtain ⟨M4, hq4, hm4⟩ := HX.out.ans hans HM.out.1 HM.out.2.1; obtain ⟨rfl, -⟩ := hans; have HX4 := hide0 hq4; have HM4 := hide0 hm4; clear hq4 hm4)
      obtain ⟨M5, xa, rs, he5, ⟨k5, rd5, wt5, su5, ho5, di5, h50, h51, h52, h53, h54, h55, h56, -⟩, ⟨xs7, hx7, -⟩, h58, h59, -⟩ := HM4.out
      obtain ⟨p7, q7, e57, -, -⟩ := entries_at hx7
      obtain ⟨p8, q8, e58, -, -⟩ := own_at h58
      obtain ⟨p9, q9, e59, -, -⟩ := own_at h59
      simp only [aggOf, Value.agg.injEq, Array.mk.injEq, List.cons.injEq, and_true] at he5
      obtain ⟨i0, i1, i2, i3, i4, i5, i6, i7, i8, i9⟩ := he5
      have hrow := HX4.out.2.2.1
      have m0 := World.rowIs.cell hrow (i := 0) (by omega)
      have m1 := World.rowIs.cell hrow (i := 1) (by omega)
      have m2 := World.rowIs.cell hrow (i := 2) (by omega)
      have m3 := World.rowIs.cell hrow (i := 3) (by omega)
      have m4 := World.rowIs.cell hrow (i := 4) (by omega)
      have m5 := World.rowIs.cell hrow (i := 5) (by omega)
      have m6 := World.rowIs.cell hrow (i := 6) (by omega)
      have m7 := World.rowIs.cell hrow (i := 7) (by omega)
      have m8 := World.rowIs.cell hrow (i := 8) (by omega)
      have m9 := World.rowIs.cell hrow (i := 9) (by omega)
      have HAG : Hid (aggOf M4 = .agg #[.int .u8 k5, .string (idb F.id), .int .u64 rd5, .int .u64 wt5, .bool su5, .int .u64 ho5, .int .u64 di5, .slice p7 xs7.length q7, .slice p8 xa.length q8, .slice p9 rs.length q9]) := by
        show aggOf M4 = _
        unfold aggOf
        rw [i0, i1, i2, i3, i4, i5, i6, i7, i8, i9, h50, h51, h52, h53, h54, h55, h56, e57, e58, e59]
      rw [i0, h50] at m0
      rw [i1, h51] at m1
      rw [i2, h52] at m2
      rw [i3, h53] at m3
      rw [i4, h54] at m4
      rw [i5, h55] at m5
      rw [i6, h56] at m6
      rw [i7, e57] at m7
      rw [i8, e58] at m8
      rw [i9, e59] at m9
      have mf := World.rowIs.frozen hrow
      have hml4 := World.rowIs.lt hrow
      have hn7 := fun w => Lib.run_eql_slice_nil (P := Try.prog) w 41 91 p7 xs7.length q7 0 0 Try.underlying41
      have hn8 := fun w => Lib.run_eql_slice_nil (P := Try.prog) w 33 9 p8 xa.length q8 0 0 Try.underlying33
      clear hrow hx7 h58 h59 i0 i1 i2 i3 i4 i5 i6 i7 i8 i9 h50 h51 h52 h53 h54 h55 h56 e57 e58 e59
      have HD := fun (v0 v1 v2 v3 v4 v5 v6 v7 v8 v9 : Value) => Fls.done (v0 := v0) (v1 := v1) (v2 := v2) (v3 := v3) (v4 := v4) (v5 := v5) (v6 := v6) (v7 := v7) (v8 := v8) (v9 := v9) HW.out.1 HW.out.2 HX4.out
      have HD2 := hide0 HD
      clear HD
      cases p7 <;> cases p8 <;> cases su5
      all_goals go_wp2_with fail
      all_goals refine bodyPost_ret (res_cell_tmp rfl _ _ w.heap.size 44 _ (0, 0) _ rfl (HD2.out _ _ _ _ _ _ _ _ _ _).1 Try.underlying44 rfl size44) rfl ?_
      all_goals first
        | exact ⟨_, false, rfl, (HD2.out _ _ _ _ _ _ _ _ _ _).2.1, (fun e => by cases e), fun _ => rfl⟩
        | exact ⟨_, true, rfl, (HD2.out _ _ _ _ _ _ _ _ _ _).2.1, (fun _ => HAG.out ▸ (HD2.out _ _ _ _ _ _ _ _ _ _).2.2 HM4.out), fun e => by cases e⟩
end Go.Proofs.Qxb6002353a
