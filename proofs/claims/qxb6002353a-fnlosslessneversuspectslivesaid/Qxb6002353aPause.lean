import Derived.Test.Qxb6002353aQuiet
import Derived.Deep.DeepCutAuto
import Derived.Deep.RegionWith
import Derived.Deep.LoopGhost
namespace Go.Proofs.Qxb6002353a
open Go.RowKit Go.Maps

/-- THE WORD OF A NODE's PEERS: its own has answered round r; of those in Hd it has heard in this pause; those in Zs have not been silent -/
def Phi (F : Fx) (r : Int) (Hd Zs : UInt8 → Prop) : Nat → UInt8 → Value → Value → Value → Prop :=
  fun b u a h s => (b = F.sb → a = .int .u64 r) ∧ (Hd u → h = .bool true) ∧ (Zs u → s = .int .u64 0)
def No : UInt8 → Prop := fun _ => False

section
variable {S : Nat → Prop} {w w' : World} {F : Fx} {Dd : UInt8 → Prop} {c : Nat} {r : Int} {ab cap : Nat} {L : List Nat} {φ φ' : Nat → UInt8 → Value → Value → Value → Prop}

theorem NT.setSilent (h : NT S w w' F Dd c r ab cap L φ) {b : Nat} (hb : b ∈ L) {vh : Value} (hc : w'.cell? ⟨b, 4, none⟩ = some vh) (z : Int) (hz : 0 ≤ z) (h1 : ∀ u a s, φ b u a vh s → φ' b u a vh (.int .u64 z)) (h2 : ∀ b', b' ∈ L → b' ≠ b → ∀ u a h s, φ b' u a h s → φ' b' u a h s) :
    NT S w (w'.setCell ⟨b, 9, none⟩ (.int .u64 z)) F Dd c r ab cap L φ' := by
  obtain ⟨⟨N, G, pid, P, K, h⟩, ht⟩ := h
  have hp := h.peer b hb
  have e4 : P b 4 = vh := by
    have := World.rowIs.cell hp.1.row (i := 4) (by omega)
    rw [hc] at this
    exact (Option.some.inj this).symm
  refine ⟨⟨_, _, _, _, _, h.setQ (φ' := φ') b hb (grownBy_setCell w' ⟨b, 9, none⟩ (.int .u64 z)) (hp.1.set 9 (.int .u64 z) (by decide) (Ty.mku z hz)) ?_ (fun b' hb' hne hx => h2 b' hb' hne _ _ _ _ hx)⟩, ht.setCell (.inl (h.inS.2.2.1 b hb)) _⟩
  have hx := hp.2.2
  rw [e4] at hx
  rw [put_other _ _ _ _ (by decide), put_other _ _ _ _ (by decide), put_same, e4]
  exact h1 _ _ _ hx
theorem NT.setHeard (h : NT S w w' F Dd c r ab cap L φ) {b : Nat} (hb : b ∈ L) (v : Bool) (h1 : ∀ u a h s, φ b u a h s → φ' b u a (.bool v) s) (h2 : ∀ b', b' ∈ L → b' ≠ b → ∀ u a h s, φ b' u a h s → φ' b' u a h s) :
    NT S w (w'.setCell ⟨b, 4, none⟩ (.bool v)) F Dd c r ab cap L φ' := by
  obtain ⟨⟨N, G, pid, P, K, h⟩, ht⟩ := h
  have hp := h.peer b hb
  refine ⟨⟨_, _, _, _, _, h.setQ (φ' := φ') b hb (grownBy_setCell w' ⟨b, 4, none⟩ (.bool v)) (hp.1.set 4 (.bool v) (by decide) (Ty.mkb v)) ?_ (fun b' hb' hne hx => h2 b' hb' hne _ _ _ _ hx)⟩, ht.setCell (.inl (h.inS.2.2.1 b hb)) _⟩
  rw [put_other _ _ _ _ (by decide), put_same, put_other _ _ _ _ (by decide)]
  exact h1 _ _ _ _ hp.2.2
theorem NT.setAns (h : NT S w w' F Dd c r ab cap L φ) {b : Nat} (hb : b ∈ L) (z : Int) (hz : 0 ≤ z) (h1 : ∀ u a h s, φ b u a h s → φ' b u (.int .u64 z) h s) (h2 : ∀ b', b' ∈ L → b' ≠ b → ∀ u a h s, φ b' u a h s → φ' b' u a h s) :
    NT S w (w'.setCell ⟨b, 3, none⟩ (.int .u64 z)) F Dd c r ab cap L φ' := by
  obtain ⟨⟨N, G, pid, P, K, h⟩, ht⟩ := h
  have hp := h.peer b hb
  refine ⟨⟨_, _, _, _, _, h.setQ (φ' := φ') b hb (grownBy_setCell w' ⟨b, 3, none⟩ (.int .u64 z)) (hp.1.set 3 (.int .u64 z) (by decide) (Ty.mku z hz)) ?_ (fun b' hb' hne hx => h2 b' hb' hne _ _ _ _ hx)⟩, ht.setCell (.inl (h.inS.2.2.1 b hb)) _⟩
  rw [put_same, put_other _ _ _ _ (by decide), put_other _ _ _ _ (by decide)]
  exact h1 _ _ _ _ hp.2.2
theorem NT.phi (h : NT S w w' F Dd c r ab cap L φ) (hφ : ∀ b ∈ L, ∀ u a h s, φ b u a h s → φ' b u a h s) : NT S w w' F Dd c r ab cap L φ' := by
  obtain ⟨⟨N, G, pid, P, K, h⟩, ht⟩ := h
  exact ⟨⟨_, _, _, _, _, h.mono (fun _ e => e) (fun _ e => e) h.dnm (Nat.le_refl _) (fun b hb hx => hφ b hb _ _ _ _ hx)⟩, ht⟩
/-- behind a callee that left the node whole -/
theorem NT.next {w2 : World} (h : NT S w w' F Dd c r ab cap L φ) (k : NT S w' w2 F Dd c r ab cap L φ') : NT S w w2 F Dd c r ab cap L φ' := ⟨k.1, h.2.trans' k.2⟩
end

/-- the word in the middle of a pause's end: the first j peers are done -/
def PhiAt (F : Fx) (r : Int) (Hd : UInt8 → Prop) (L : List Nat) (j : Nat) : Nat → UInt8 → Value → Value → Value → Prop :=
  fun b u a h s => (b = F.sb → a = .int .u64 r) ∧ (b ∈ L.take j → Hd u → s = .int .u64 0) ∧ (b ∉ L.take j → Hd u → h = .bool true)

theorem take_next {L : List Nat} {j : Nat} (h : j < L.length) {b : Nat} : b ∈ L.take (j + 1) ↔ b ∈ L.take j ∨ b = L[j] := by
  rw [List.take_succ_eq_append_getElem h, List.mem_append, List.mem_singleton]
theorem not_yet {L : List Nat} (hn : L.Nodup) {j : Nat} (h : j < L.length) : L[j] ∉ L.take j := by
  intro hm
  obtain ⟨i, hi, he⟩ := List.mem_iff_getElem.1 hm
  simp only [List.length_take, List.getElem_take] at hi he
  exact (List.pairwise_iff_getElem.1 hn) i j (by omega) h (by omega) he

set_option maxHeartbeats 4000000 in
set_option maxRecDepth 100000 in
theorem endPause_any {S : Nat → Prop} {w : World} {F : Fx} {Dd : UInt8 → Prop} {c : Nat} {r : Int} {ab cap : Nat} {L : List Nat} {Hd Zs : UInt8 → Prop} (h : NodeOK S w F Dd c r ab cap L (Phi F r Hd Zs)) :
    Calls Try.prog 30 #[.pointer (some ⟨F.nb, 0, none⟩)] w (Kept S w F Dd c r ab cap L (Phi F r No Hd)) := by
  have HH : Hid (NT S w w F Dd c r ab cap L (Phi F r Hd Zs)) := NT.start h
  have hln : L.Nodup := by obtain ⟨N, G, pid, P, K, h⟩ := h; exact h.lnd
  have hl5 : L.length ≤ 5 := by obtain ⟨N, G, pid, P, K, h⟩ := h; exact h.l5
  have c5 : w.cell? ⟨F.nb, 5, none⟩ = some (.slice (some ⟨ab, 0, none⟩) L.length cap) := by
    obtain ⟨N, G, pid, P, K, h⟩ := h
    rw [← h.n5]; exact World.rowIs.cell h.nrow (by omega)
  have HL : Hid L.Nodup := hln
  clear h hln
  go_enter Try.func30, Try.ntmps30
  go_wp2
  go_loopw [12] (fun i wr => ∃ j : Nat, j ≤ L.length ∧ i = .int .i64 j ∧ NT S w wr F Dd c r ab cap L (PhiAt F r Hd L j)) (fun i _ => L.length - (intOf i).toNat)
  case atStart =>
    exact ⟨0, Nat.zero_le _, rfl, HH.out.phi (fun b _ u a h s hx => ⟨hx.1, fun hm => by simp at hm, fun _ => hx.2.1⟩)⟩
  case round =>
    obtain ⟨j, hj, rfl, hnt⟩ := hrel
    by_cases hlt : j < L.length
    · have hb : L[j] ∈ L := List.getElem_mem hlt
      have hny : L[j] ∉ L.take j := not_yet HL.out hlt
      have HN : Hid (NT S w wr F Dd c r ab cap L (PhiAt F r Hd L j)) := hnt
      obtain ⟨N, G, pid, P, K, hn⟩ := hnt.1
      have hp := (hn.peer _ hb).1
      have hne := hn.bn hb
      obtain ⟨b4, d4⟩ := hp.cb 4 (by omega) rfl
      obtain ⟨z9, n9, d9⟩ := hp.cu 9 (by omega) rfl
      obtain ⟨z12, n12, d12⟩ := hp.cu 12 (by omega) rfl
      have f4 := hp.fz 4
      have f9 := hp.fz 9
      have f12 := hp.fz 12
      have e0 : wr.cell? ⟨ab, j, none⟩ = some (.pointer (some ⟨L[j], 0, none⟩)) := by
        rw [← hn.bptr j hlt]; exact World.rowIs.cell hn.brow (by have := hn.bcap; omega)
      have hps : ∀ b' ∈ L, b' ≠ L[j] → ∀ u a h s, PhiAt F r Hd L j b' u a h s → PhiAt F r Hd L (j + 1) b' u a h s := by
        intro b' _ hne' u a h s hx
        refine ⟨hx.1, fun hm => ?_, fun hm => hx.2.2 (fun e => hm ((take_next hlt).2 (.inl e)))⟩
        rcases (take_next hlt).1 hm with e | e
        · exact hx.2.1 e
        · exact absurd e hne'
      have hin : L[j] ∈ L.take (j + 1) := (take_next hlt).2 (.inr rfl)
      generalize L[j] = b at hb hny hp hne d4 d9 d12 f4 f9 f12 e0 hps hin
      have HPS : Hid (∀ b' ∈ L, b' ≠ b → ∀ u a h s, PhiAt F r Hd L j b' u a h s → PhiAt F r Hd L (j + 1) b' u a h s) := hps
      have HIN : Hid (b ∈ L.take (j + 1)) := hin
      have HNY : Hid (b ∉ L.take j) := hny
      have HB : Hid (b ∈ L) := hb
      clear hn hp hnt hps hin hny hb
      go_upto_if 19 with fail
      go_cut [3] (fun s wc => s = .pointer (some ⟨b, 0, none⟩) ∧ NT S w wc F Dd c r ab cap L (PhiAt F r Hd L (j + 1)))
      case first =>
        cases b4
        · go_wp2_with fail
          go_meet
          case rel =>
            refine ⟨rfl, NT.setL (NT.setSilent HN.out HB.out d4 _ (by first | assumption | exact wrap_nn _ | omega) ?_ HPS.out) HB.out 12 _ (by simp) (Ty.mku _ (by first | assumption | exact wrap_nn _ | omega))⟩
            intro u a s hx
            refine ⟨hx.1, fun _ hd => ?_, fun hm => absurd HIN.out hm⟩
            have := hx.2.2 HNY.out hd
            cases this
        · go_wp2_with fail
          go_meet
          case rel =>
            refine ⟨rfl, NT.setSilent HN.out HB.out d4 _ (by first | assumption | exact wrap_nn _ | omega) ?_ HPS.out⟩
            intro u a s hx
            exact ⟨hx.1, fun _ _ => rfl, fun hm => absurd HIN.out hm⟩
      case rest =>
        obtain ⟨rfl, hnt⟩ := hcut
        have HINX : Hid (b ∈ L.take (j + 1)) := HIN.out
        clear HN HPS HIN HNY d4 d9 d12 f4 f9 f12 e0 hne
        have HN2 : Hid (NT S w wc F Dd c r ab cap L (PhiAt F r Hd L (j + 1))) := hnt
        obtain ⟨N, G, pid, P, K, hn⟩ := hnt.1
        have hp := (hn.peer _ HB.out).1
        obtain ⟨b5, d5⟩ := hp.cb 5 (by omega) rfl
        obtain ⟨b6, d6⟩ := hp.cb 6 (by omega) rfl
        obtain ⟨b7, d7⟩ := hp.cb 7 (by omega) rfl
        obtain ⟨z23, n23, c23⟩ := hn.cu 23 (by omega) rfl
        obtain ⟨b22, c22⟩ := hn.cb 22 (by omega) rfl
        clear hn hp hnt
        go_upto_region 7 with fail
        go_cut [62] (fun s wd => ∃ bb : Bool, s = .bool bb ∧ wc = wd)
        case first =>
          go_wp2_with fail
          all_goals
            go_meet
            exact ⟨_, rfl, rfl⟩
        case rest =>
          obtain ⟨bb, rfl, rfl⟩ := hcut
          clear d5 d6 d7 c23 c22
          go_upto_if 62 with fail
          go_cut [3] (fun s wd => s = .pointer (some ⟨b, 0, none⟩) ∧ NT S w wd F Dd c r ab cap L (PhiAt F r Hd L (j + 1)))
          case first =>
            cases bb
            · go_wp2_with fail
              go_meet
              exact ⟨rfl, HN2.out⟩
            · go_wp2_with fail
              refine (count_any HN2.out.1 HB.out).mono ?_
              rintro e w1 ⟨rfl, hk⟩
              have HK : Hid (NT S wc w1 F Dd c r ab cap L (PhiAt F r Hd L (j + 1))) := hk
              clear hk
              go_wp2_with fail
              go_meet
              exact ⟨rfl, HN2.out.next HK.out⟩
          case rest =>
            obtain ⟨rfl, hnt⟩ := hcut
            clear HN2
            have HN3 : Hid (NT S w wc F Dd c r ab cap L (PhiAt F r Hd L (j + 1))) := hnt
            obtain ⟨N, G, pid, P, K, hn⟩ := hnt.1
            have hp := (hn.peer _ HB.out).1
            obtain ⟨b4, d4⟩ := hp.cb 4 (by omega) rfl
            obtain ⟨b5, d5⟩ := hp.cb 5 (by omega) rfl
            obtain ⟨b6, d6⟩ := hp.cb 6 (by omega) rfl
            obtain ⟨b7, d7⟩ := hp.cb 7 (by omega) rfl
            have f4 := hp.fz 4
            have f5 := hp.fz 5
            have f6 := hp.fz 6
            have f7 := hp.fz 7
            clear hn hp hnt
            go_wp2_with fail
            go_roundw
            case rel =>
              refine ⟨j + 1, by omega, by go_num, ?_⟩
              refine NT.setL (NT.setL (NT.setHeard (NT.setL HN3.out HB.out 5 _ (by simp) (Ty.mkb _)) HB.out false (fun u a h s hx => ⟨hx.1, hx.2.1, fun hm => absurd HINX.out hm⟩) (fun _ _ _ _ _ _ _ hx => hx)) HB.out 6 _ (by simp) (Ty.mkb _)) HB.out 7 _ (by simp) (Ty.mkb _)
            case measure => simp [intOf]; omega
    · have hjl : j = L.length := by omega
      have hnt : NT S w wr F Dd c r ab cap L (Phi F r No Hd) := hnt.phi (fun b hb u a h s hx => ⟨hx.1, fun hf => hf.elim, hx.2.1 (by rw [hjl, List.take_length]; exact hb)⟩)
      have HN : Hid (NT S w wr F Dd c r ab cap L (Phi F r No Hd)) := hnt
      obtain ⟨N, G, pid, P, K, hn⟩ := hnt.1
      obtain ⟨z23, n23, c23⟩ := hn.cu 23 (by omega) rfl
      obtain ⟨b22, c22⟩ := hn.cb 22 (by omega) rfl
      obtain ⟨z17, n17, c17⟩ := hn.cu 17 (by omega) rfl
      obtain ⟨z16, n16, c16⟩ := hn.cu 16 (by omega) rfl
      obtain ⟨z19, n19, c19⟩ := hn.cu 19 (by omega) rfl
      have f23 := hn.fz 23
      have f22 := hn.fz 22
      have f19 := hn.fz 19
      clear hn hnt hjl
      have HN2 : Hid (NT S w ((wr.setCell ⟨F.nb, 23, none⟩ (.int .u64 (IntKind.u64.wrap (z23 + 1)))).setCell ⟨F.nb, 22, none⟩ (.bool false)) F Dd c r ab cap L (Phi F r No Hd)) :=
        NT.setP (NT.setP HN.out 23 _ (by simp) (Ty.mku _ (by first | assumption | exact wrap_nn _ | omega))) 22 _ (by simp) (Ty.mkb _)
      go_upto_region 14 with fail
      go_cut [102] (fun _ wd => NT S w wd F Dd c r ab cap L (Phi F r No Hd))
      case first =>
        go_region_with (go_at_call 46; refine (wait_any _ _ _).mono ?_; rintro e w' ⟨z, q, hz, rfl, rfl⟩)
        all_goals (try go_wp2_with fail)
        all_goals go_meet
        all_goals exact NT.setP (NT.drewN HN2.out _) 19 _ (by simp) (Ty.mku _ (by first | assumption | exact wrap_nn _ | omega))
      case rest =>
        clear HN HN2 c23 c22 c17 c16 c19 f23 f22 f19
        have HN3 : Hid (NT S w wc F Dd c r ab cap L (Phi F r No Hd)) := hcut
        obtain ⟨N, G, pid, P, K, hn⟩ := hcut.1
        obtain ⟨z18, n18, c18⟩ := hn.cu 18 (by omega) rfl
        obtain ⟨z19, n19, c19⟩ := hn.cu 19 (by omega) rfl
        obtain ⟨b20, c20⟩ := hn.cb 20 (by omega) rfl
        have f19 := hn.fz 19
        have f20 := hn.fz 20
        clear hn hcut
        by_cases t0 : 0 < z18
        · go_wp2_with (go_at_call 47; refine (heard_any HN3.out.1).mono ?_; rintro e w' ⟨y, z, q, hy, hz, rfl, rfl⟩)
          all_goals
            go_end0
            refine ⟨rfl, ?_⟩
            repeat (first | exact HN3.out | refine NT.drewN ?_ _ | refine NT.setP ?_ _ _ (by simp) (by first | exact Ty.mku _ (by first | assumption | exact wrap_nn _ | omega) | exact Ty.mkb _ | exact Ty.mki _))
        · go_wp2_with (go_at_call 47; refine (heard_any HN3.out.1).mono ?_; rintro e w' ⟨y, z, q, hy, hz, rfl, rfl⟩)
          all_goals
            go_end0
            refine ⟨rfl, ?_⟩
            repeat (first | exact HN3.out | refine NT.drewN ?_ _ | refine NT.setP ?_ _ _ (by simp) (by first | exact Ty.mku _ (by first | assumption | exact wrap_nn _ | omega) | exact Ty.mkb _ | exact Ty.mki _))
end Go.Proofs.Qxb6002353a
