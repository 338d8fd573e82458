import Derived.Test.Qxb6002353aPeer
import Derived.BigQuiet
namespace Go.Proofs.Qxb6002353a
open Go.RowKit Go.Maps

/-- what a message told has been taken in -/
def TakePost (S : Nat → Prop) (w : World) (F : Fx) (Dd : UInt8 → Prop) (c : Nat) (r : Int) (ab cap : Nat) (L : List Nat) (φ : Nat → UInt8 → Value → Value → Value → Prop) (e : Ending) (w' : World) : Prop :=
  e = .returned (.tuple #[]) ∧ NG S w w' F Dd (c + 5) r ab cap L φ

set_option maxHeartbeats 16000000 in
set_option maxRecDepth 100000 in
theorem take_any {S T : Nat → Prop} {w : World} {F : Fx} {Dd : UInt8 → Prop} {c : Nat} {r : Int} {ab cap : Nat} {L : List Nat} {φ : Nat → UInt8 → Value → Value → Value → Prop} (h : NodeOK S w F Dd c r ab cap L φ) (hc : c + 5 ≤ 1000000) (hid : ¬ Dd F.id) {v : Value} (he : Entries T w Dd v) (hT : ∀ k, T k → ¬ S k) (s : UInt8) :
    Calls Try.prog 37 #[.pointer (some ⟨F.nb, 0, none⟩), .string (idb s), v] w (TakePost S w F Dd c r ab cap L φ) := by
  have HH := hide0 h
  obtain ⟨xs, hx1, hx2, hx3, hx4⟩ := he
  obtain ⟨p, cp, rfl, hp, hcell⟩ := entries_at hx1
  have hel : ∀ i, (hi : i < xs.length) → ∃ g u t, p = some ⟨g, 0, none⟩ ∧ g < w.heap.size ∧ ¬ S g ∧ Dd u ∧ (Lit.int .u64 t).wf = true ∧ w.cell? ⟨g, i * 3, none⟩ = some (.string (idb u)) ∧ w.cell? ⟨g, i * 3 + 1, none⟩ = some (.int .u64 t) ∧ w.cell? ⟨g, i * 3 + 2, none⟩ = some (.bool true) := fun i hi => by
    obtain ⟨g, hg⟩ := hp (by omega)
    obtain ⟨k1, k2, k3⟩ := hcell g hg
    obtain ⟨m1, m2⟩ := hx2 _ (List.getElem_mem hi)
    exact ⟨g, _, _, hg, k2, hT g (hx4 g k1), m1, m2, k3 i hi⟩
  have HE := hide0 hel
  have HID := hide0 hid
  clear h hx1 hx2 hx4 hp hcell hel hT hid
  generalize xs.length = n at hx3 HE
  go_enter Try.func37, Try.ntmps37
  go_wp2_with fail
  go_loopw [13] (fun i wr => ∃ j : Nat, j ≤ n ∧ i = .int .i64 j ∧ NG S w wr F Dd (c + j) r ab cap L φ) (fun i _ => n - (intOf i).toNat)
  case atStart => exact ⟨0, Nat.zero_le _, rfl, NG.start HH.out⟩
  case round =>
    obtain ⟨j, hj, rfl, hng⟩ := hrel
    by_cases hlt : j < n
    · have HN := hide0 hng
      obtain ⟨g, u, t, rfl, hgl, hgS, hdu, hwf, g0, g1, g2⟩ := HE.out j hlt
      have hgb := hng.2.block g hgl hgS
      have hgl2 : g < wr.heap.size := Nat.lt_of_lt_of_le hgl hng.2.size
      have k0 : wr.cell? ⟨g, j * 3, none⟩ = some (.string (idb u)) := (World.cell?_of_block hgb).trans g0
      have k1 : wr.cell? ⟨g, j * 3 + 1, none⟩ = some (.int .u64 t) := (World.cell?_of_block hgb).trans g1
      have k2 : wr.cell? ⟨g, j * 3 + 2, none⟩ = some (.bool true) := (World.cell?_of_block hgb).trans g2
      obtain ⟨N, G, pid, P, K, hn⟩ := hng.1
      have c8 : wr.cell? ⟨F.nb, 8, none⟩ = some (.map (some F.qm)) := by rw [← hn.n8]; exact World.rowIs.cell hn.nrow (by omega)
      have c0 : wr.cell? ⟨F.nb, 0, none⟩ = some (.string (idb F.id)) := by rw [← hn.n0]; exact World.rowIs.cell hn.nrow (by omega)
      have hql : F.qm < wr.heap.size := by obtain ⟨D, a, _⟩ := hn.qmap; exact a.lt
      have hnl := World.rowIs.lt hn.nrow
      obtain ⟨t2, bb, hlk, hwf2, hbt, hbf⟩ := hn.qmap.lookok u
      have heq : ((idb u).toList == (idb F.id).toList) = false := by
        cases hh : ((idb u).toList == (idb F.id).toList) with
        | false => rfl
        | true =>
          have h1 := beq_iff_eq.1 hh
          rw [ByteArray.toList_eq, ByteArray.toList_eq] at h1
          simp [idb] at h1
          rw [h1] at hdu
          exact absurd hdu HID.out
      have HW := hide0 hwf
      have HU := hide0 hdu
      have hlk1 : ∀ (o : Obj), (Instr.lookup 61 (.map (some F.qm)) (.string (idb u)) true).run Try.prog (wr.alloc o).drew = .ok (.tuple #[.agg #[.int .u64 t2, .bool bb], .bool bb]) (wr.alloc o).drew := fun o => hlk _ (Below.heap_alloc _ _ _ hql)
      have hlk2 : ∀ (o o' : Obj), (Instr.lookup 61 (.map (some F.qm)) (.string (idb u)) true).run Try.prog ((wr.alloc o).alloc o').drew = .ok (.tuple #[.agg #[.int .u64 t2, .bool bb], .bool bb]) ((wr.alloc o).alloc o').drew := fun o o' => hlk _ ((Below.heap_alloc _ _ _ (by simp; omega)).trans (Below.heap_alloc _ _ _ hql))
      clear hng hn g0 g1 g2 hgb hgl hgS hwf hdu hlk hwf2 hbt hbf
      go_upto_region 3 with fail
      have HN1 : Hid (NG S w (wr.alloc (.cells #[.string (idb u), .int .u64 t, .bool true] 91)) F Dd (c + j) r ab cap L φ) := HN.out.alloc _
      have a0 : (wr.alloc (.cells #[.string (idb u), .int .u64 t, .bool true] 91)).cell? ⟨wr.heap.size, 0, none⟩ = some (.string (idb u)) := by simp
      have a1 : (wr.alloc (.cells #[.string (idb u), .int .u64 t, .bool true] 91)).cell? ⟨wr.heap.size, 1, none⟩ = some (.int .u64 t) := by simp
      have a2 : (wr.alloc (.cells #[.string (idb u), .int .u64 t, .bool true] 91)).cell? ⟨wr.heap.size, 2, none⟩ = some (.bool true) := by simp
      have c8' : (wr.alloc (.cells #[.string (idb u), .int .u64 t, .bool true] 91)).cell? ⟨F.nb, 8, none⟩ = some (.map (some F.qm)) := by rw [← c8]; exact World.cell?_of_block (Below.heap_alloc _ _ _ hnl)
      have c0' : (wr.alloc (.cells #[.string (idb u), .int .u64 t, .bool true] 91)).cell? ⟨F.nb, 0, none⟩ = some (.string (idb F.id)) := by rw [← c0]; exact World.cell?_of_block (Below.heap_alloc _ _ _ hnl)
      have hnl' : F.nb < (wr.alloc (.cells #[.string (idb u), .int .u64 t, .bool true] 91)).heap.size := by simp; omega
      have hel' : wr.heap.size < (wr.alloc (.cells #[.string (idb u), .int .u64 t, .bool true] 91)).heap.size := by simp
      have hlk1' := hlk1 (.cells #[.string (idb u), .int .u64 t, .bool true] 91)
      have hlk2' := hlk2 (.cells #[.string (idb u), .int .u64 t, .bool true] 91)
      clear hlk1 hlk2 c8 c0 hql hnl HN HE k0 k1 k2 hgl2
      generalize wr.alloc (.cells #[.string (idb u), .int .u64 t, .bool true] 91) = wd at HN1 a0 a1 a2 c8' c0' hnl' hel' hlk1' hlk2'
      generalize wr.heap.size = eb at a0 a1 a2 hel'
      go_region
      have HN2 : Hid (NG S w (wd.alloc (.cells #[.int .u64 t2, .bool bb] 66)).drew F Dd (c + j) r ab cap L φ) := (HN1.out.alloc _).drewN 1
      have b0 : (wd.alloc (.cells #[.int .u64 t2, .bool bb] 66)).drew.cell? ⟨eb, 0, none⟩ = some (.string (idb u)) := by rw [← a0]; exact World.cell?_of_block (Below.heap_alloc _ _ _ hel')
      have b1 : (wd.alloc (.cells #[.int .u64 t2, .bool bb] 66)).drew.cell? ⟨eb, 1, none⟩ = some (.int .u64 t) := by rw [← a1]; exact World.cell?_of_block (Below.heap_alloc _ _ _ hel')
      have b2 : (wd.alloc (.cells #[.int .u64 t2, .bool bb] 66)).drew.cell? ⟨eb, 2, none⟩ = some (.bool true) := by rw [← a2]; exact World.cell?_of_block (Below.heap_alloc _ _ _ hel')
      have b3 : (wd.alloc (.cells #[.int .u64 t2, .bool bb] 66)).drew.cell? ⟨wd.heap.size, 0, none⟩ = some (.int .u64 t2) := by
        show (wd.alloc (.cells #[.int .u64 t2, .bool bb] 66)).cell? ⟨wd.heap.size, 0, none⟩ = _
        simp
      have d0 : (wd.alloc (.cells #[.int .u64 t2, .bool bb] 66)).drew.cell? ⟨F.nb, 0, none⟩ = some (.string (idb F.id)) := by rw [← c0']; exact World.cell?_of_block (Below.heap_alloc _ _ _ hnl')
      have hnl2 : F.nb < (wd.alloc (.cells #[.int .u64 t2, .bool bb] 66)).drew.heap.size := by
        show F.nb < (wd.alloc (.cells #[.int .u64 t2, .bool bb] 66)).heap.size
        simp; omega
      have hel2 : eb < (wd.alloc (.cells #[.int .u64 t2, .bool bb] 66)).drew.heap.size := by
        show eb < (wd.alloc (.cells #[.int .u64 t2, .bool bb] 66)).heap.size
        simp; omega
      have hhl2 : wd.heap.size < (wd.alloc (.cells #[.int .u64 t2, .bool bb] 66)).drew.heap.size := by
        show wd.heap.size < (wd.alloc (.cells #[.int .u64 t2, .bool bb] 66)).heap.size
        simp
      clear hlk1' hlk2' c8' c0' hnl' HN1 a0 a1 a2 hel'
      generalize (wd.alloc (.cells #[.int .u64 t2, .bool bb] 66)).drew = wh at HN2 b0 b1 b2 b3 d0 hnl2 hel2 hhl2
      generalize wd.heap.size = hb at b3 hhl2
      by_cases hskip : bb = true ∧ t ≤ t2
      · obtain ⟨rfl, hle⟩ := hskip
        go_wp2_with fail
        go_roundw
        case rel => exact ⟨j + 1, by omega, by go_num, HN2.out.monoC (by omega)⟩
        case measure => simp [intOf]; omega
      · have hcase : bb = false ∨ (bb = true ∧ t2 < t) := by
          cases bb
          · exact .inl rfl
          · exact .inr ⟨rfl, by have : ¬ (t ≤ t2) := fun e => hskip ⟨rfl, e⟩; omega⟩
        clear hskip
        rcases hcase with rfl | ⟨rfl, hgt⟩
        all_goals
          go_upto_region 6 with fail
          go_quiet (fail)
          have HN3 : Hid (NG S w (wh.drewN nq) F Dd (c + j) r ab cap L φ) := HN2.out.drewN nq
          have b0' : (wh.drewN nq).cell? ⟨eb, 0, none⟩ = some (.string (idb u)) := b0
          have b1' : (wh.drewN nq).cell? ⟨eb, 1, none⟩ = some (.int .u64 t) := b1
          have b2' : (wh.drewN nq).cell? ⟨eb, 2, none⟩ = some (.bool true) := b2
          have d0' : (wh.drewN nq).cell? ⟨F.nb, 0, none⟩ = some (.string (idb F.id)) := d0
          have hnl3 : F.nb < (wh.drewN nq).heap.size := hnl2
          have hel3 : eb < (wh.drewN nq).heap.size := hel2
          clear HN2 b0 b1 b2 b3 d0 hnl2 hel2 hhl2
          generalize wh.drewN nq = wk at HN3 b0' b1' b2' d0' hnl3 hel3
          go_upto_region 8 with fail
          go_quiet (fail)
          have HN4 : Hid (NG S w (wk.drewN nq) F Dd (c + j) r ab cap L φ) := HN3.out.drewN nq
          have b0 : (wk.drewN nq).cell? ⟨eb, 0, none⟩ = some (.string (idb u)) := b0'
          have b1 : (wk.drewN nq).cell? ⟨eb, 1, none⟩ = some (.int .u64 t) := b1'
          have b2 : (wk.drewN nq).cell? ⟨eb, 2, none⟩ = some (.bool true) := b2'
          have hel4 : eb < (wk.drewN nq).heap.size := hel3
          clear HN3 b0' b1' b2' d0' hnl3 hel3
          generalize wk.drewN nq = wl at HN4 b0 b1 b2 hel4
          have HS := set_any HN4.out.1 (by omega) u HU.out t HW.out
          go_wp2_with (go_at_call 49; refine HS.mono ?_; rintro e w5 ⟨rfl, hn5, ht5⟩)
          go_roundw
          case rel => exact ⟨j + 1, by omega, by go_num, NG.next HN4.out ⟨hn5, ht5⟩⟩
          case measure => simp [intOf]; omega
    · go_wp2_with fail
      go_end0
      exact ⟨rfl, hng.monoC (by omega)⟩
end Go.Proofs.Qxb6002353a
