import Derived.Test.Qxb6002353aApp
import Derived.Deep.DeepCutAuto
import Derived.Deep.RegionLaw
namespace Go.Proofs.Qxb6002353a
open Go.RowKit Go.Maps

/-- the list of pairs under way: j of them are laid -/
def Build (S : Nat → Prop) (w wr : World) (F : Fx) (Dd : UInt8 → Prop) (c : Nat) (r : Int) (ab cap : Nat) (L : List Nat) (φ : Nat → UInt8 → Value → Value → Value → Prop) (ks : List UInt8) (sv : Value) (j : Nat) : Prop :=
  ∃ (N G : Nat → Value) (pid : Nat → UInt8) (P : Nat → Nat → Value) (K : UInt8 → Prop) (xs : List (UInt8 × Int)), NodeIs (grow S w wr) wr F Dd c r ab cap L φ N G pid P K ∧
    wr.ownsRow 0 91 3 (N 9) xs.length (cellsOf xs) ∧ xs.length = j ∧ (∀ x ∈ xs, Dd x.1 ∧ (Lit.int .u64 x.2).wf = true) ∧ (∀ u ∈ ks, K u) ∧ (∀ g, (N 9).ownBlock = some g → grow S w wr g) ∧ Touch S w wr ∧ wr.ownsRow 0 9 1 sv ks.length (ks.map fun u => .string (idb u))

theorem Build.step {S : Nat → Prop} {w wr w5 : World} {F : Fx} {Dd K : UInt8 → Prop} {c : Nat} {r : Int} {ab cap : Nat} {L : List Nat} {φ : Nat → UInt8 → Value → Value → Value → Prop} {N G : Nat → Value} {pid : Nat → UInt8} {P : Nat → Nat → Value} {ks : List UInt8} {ys : List (UInt8 × Int)} {u : UInt8} {t : Int} {j gs sc c5 : Nat} {p5 : Option Addr}
    (hn : NodeIs (grow S w wr) wr F Dd c r ab cap L φ N G pid P K) (hy1 : wr.ownsRow 0 91 3 (N 9) ys.length (cellsOf ys)) (hy2 : ys.length = j) (hy3 : ∀ x ∈ ys, Dd x.1 ∧ (Lit.int .u64 x.2).wf = true) (hy4 : ∀ u ∈ ks, K u) (hy5 : ∀ g, (N 9).ownBlock = some g → grow S w wr g) (hy6 : Touch S w wr) (hy7 : wr.ownsRow 0 9 1 (.slice (some ⟨gs, 0, none⟩) ks.length sc) ks.length (ks.map fun u => .string (idb u)))
    (hlt : j < ks.length) (hs5 : ks.length ≤ 5) (hdu : Dd u) (hwt : (Lit.int .u64 t).wf = true)
    (hown5 : w5.ownsRow 0 91 3 (.slice p5 (j + 1) c5) (ys.length + 1) (cellsOf ys ++ [.string (idb u), .int .u64 t, .bool true]))
    (hg5 : (wr.alloc (.cells #[.string (idb u), .int .u64 t, .bool true] 91)).drew.grownBy w5 (N 9).ownBlock)
    (hloc5 : (Value.slice p5 (j + 1) c5).ownBlock = (N 9).ownBlock ∨ (Value.slice p5 (j + 1) c5).ownBlock = some (wr.alloc (.cells #[.string (idb u), .int .u64 t, .bool true] 91)).drew.heap.size) :
    Build S w (w5.setCell ⟨F.nb, 9, none⟩ (.slice p5 (j + 1) c5)) F Dd c r ab cap L φ ks (.slice (some ⟨gs, 0, none⟩) ks.length sc) (j + 1) := by
  have e5s : w5.heap.size ≥ wr.heap.size + 1 := by have := hg5.size; simpa using this
  have hne9 : some F.nb ≠ (N 9).ownBlock := by
    intro e
    have h1 := tag_own hy1 e.symm
    rw [tag_row hn.nrow] at h1
    cases h1
  have hsz : (w5.setCell ⟨F.nb, 9, none⟩ (.slice p5 (j + 1) c5)).heap.size = w5.heap.size := by simp [World.setCell]
  have hcl : cellsOf (ys ++ [(u, t)]) = cellsOf ys ++ [.string (idb u), .int .u64 t, .bool true] := by simp [cellsOf]
  have hyl : (ys ++ [(u, t)]).length = ys.length + 1 := by simp
  have hall : ∀ x ∈ ys ++ [(u, t)], Dd x.1 ∧ (Lit.int .u64 x.2).wf = true := by
    intro x hx
    rcases List.mem_append.1 hx with e | e
    · exact hy3 x e
    · simp only [List.mem_singleton] at e
      rw [e]
      exact ⟨hdu, hwt⟩
  have hS5 : ∀ i, grow S w wr i → grow S w w5 i := fun i hi => grow_mono (by omega) hi
  have hSv : ∀ g, (Value.slice p5 (j + 1) c5).ownBlock = some g → grow S w w5 g := by
    intro g hg
    rcases hloc5 with e | e
    · exact hS5 g (hy5 g (by rw [← e]; exact hg))
    · rw [hg] at e
      simp only [Option.some.injEq] at e
      have h1 := (hown5.lt g hg).2
      have h2 := hy6.size
      refine .inr ⟨?_, h1⟩
      simp at e
      omega
  have hent : Entries (grow S w w5) w5 Dd (.slice p5 (j + 1) c5) := ⟨ys ++ [(u, t)], by rw [hcl, hyl]; exact hown5, hall, by omega, hSv⟩
  have hg0 : wr.grownBy w5 (N 9).ownBlock := by
    refine ⟨hg5.os, hg5.tape, hg5.output, by omega, fun k hk hne => ?_⟩
    rw [hg5.block k (by simp; omega) hne]
    exact Below.heap_alloc _ _ _ hk
  have hn' := NodeIs.appC (hn.mono (S' := grow S w w5) hS5 (fun _ e => e) hn.dnm (Nat.le_refl _) (fun _ _ e => e)) (fun g e => tag_own hy1 e) hg0 (.slice p5 (j + 1) c5) hent
  have hT : Touch S w (w5.setCell ⟨F.nb, 9, none⟩ (.slice p5 (j + 1) c5)) := Touch.setCell (hy6.grown hg0 (fun k e => hy5 k e)) (hS5 _ hn.inS.1) _
  have hnew : (w5.setCell ⟨F.nb, 9, none⟩ (.slice p5 (j + 1) c5)).ownsRow 0 91 3 (.slice p5 (j + 1) c5) (ys ++ [(u, t)]).length (cellsOf (ys ++ [(u, t)])) := by
    rw [hcl, hyl]
    refine hown5.kept (grownBy_setCell w5 ⟨F.nb, 9, none⟩ _) (.inr (fun e => ?_))
    have h1 := tag_own hown5 e
    have h2 : tag w5 F.nb = 65 := tag_row (rowIs_kept hn.nrow hg0 hne9)
    rw [h1] at h2
    cases h2
  refine ⟨_, G, pid, P, K, ys ++ [(u, t)], hn'.mono (fun i hi => grow_mono (by omega) hi) (fun _ e => e) hn.dnm (Nat.le_refl _) (fun _ _ e => e), ?_, by omega, hall, hy4, ?_, hT, ?_⟩
  · rw [put_same]; exact hnew
  · rw [put_same]; exact fun g hg => grow_mono (by omega) (hSv g hg)
  · have k1 := hy7.kept hg0 (.inr (fun e => by
      cases hv9 : (N 9).ownBlock with
      | none => rw [hv9] at e; cases e
      | some g9 =>
        rw [hv9] at e
        have h1 := tag_own hy7 e
        have h2 := tag_own hy1 hv9
        rw [h1] at h2
        cases h2))
    refine k1.kept (grownBy_setCell w5 ⟨F.nb, 9, none⟩ _) (.inr (fun e => ?_))
    have h1 := tag_own k1 e
    have h2 : tag w5 F.nb = 65 := tag_row (rowIs_kept hn.nrow hg0 hne9)
    rw [h1] at h2
    cases h2

def DigPost (w : World) (e : Ending) (w' : World) : Prop := ∃ z : Int, 0 ≤ z ∧ e = .returned (.int .u64 z) ∧ Below w.heap.size w w'

def HeldPost (S : Nat → Prop) (w : World) (F : Fx) (Dd : UInt8 → Prop) (c : Nat) (r : Int) (ab cap : Nat) (L : List Nat) (φ : Nat → UInt8 → Value → Value → Value → Prop) (e : Ending) (w' : World) : Prop :=
  ∃ v, e = .returned v ∧ NG S w w' F Dd c r ab cap L φ ∧ Entries (grow S w w') w' Dd v

set_option maxHeartbeats 16000000 in
set_option maxRecDepth 100000 in
theorem held_any {S : Nat → Prop} {w : World} {F : Fx} {Dd : UInt8 → Prop} {c : Nat} {r : Int} {ab cap : Nat} {L : List Nat} {φ : Nat → UInt8 → Value → Value → Value → Prop} (h : NodeOK S w F Dd c r ab cap L φ) :
    Calls Try.prog 33 #[.pointer (some ⟨F.nb, 0, none⟩)] w (HeldPost S w F Dd c r ab cap L φ) := by
  have HH : Hid (NodeOK S w F Dd c r ab cap L φ) := h
  obtain ⟨N, G, pid, P, K, h⟩ := h
  obtain ⟨xs, hx1, hx2, hx3, hx4⟩ := h.car
  obtain ⟨p, cp, e9, hp9, hc9⟩ := entries_at hx1
  have c9 : w.cell? ⟨F.nb, 9, none⟩ = some (.slice p xs.length cp) := by rw [← e9]; exact World.rowIs.cell h.nrow (by omega)
  have c8 : w.cell? ⟨F.nb, 8, none⟩ = some (.map (some F.qm)) := by rw [← h.n8]; exact World.rowIs.cell h.nrow (by omega)
  obtain ⟨D, hD, hD1, hD2⟩ := h.qmap
  have hlen := fun ty => hD.len Try.underlying61 ty
  have hs5 := hD.size_le
  have hnl := World.rowIs.lt h.nrow
  have hnil := fun w => Lib.run_eql_slice_nil (P := Try.prog) w 41 91 p xs.length cp 0 0 Try.underlying41
  have EN : Hid (Entries S w Dd (.slice p xs.length cp)) := by
    show Entries S w Dd _
    rw [← e9]; exact h.car
  have HN : Hid (NodeIs S w F Dd c r ab cap L φ N G pid P K) := h
  have HD : Hid (w.ownsMap Try.prog 9 RV F.qm 5 D) := hD
  have HK : Hid (∀ l, Maps.has D (.string l) = true → ∃ u, l = [u] ∧ K u) := fun l hl => by
    obtain ⟨u, t, e1, e2, e3, _⟩ := hD1 l hl
    exact ⟨u, e1, e3⟩
  clear hx1 hx2 hx4 hD1 hD2 hD h hc9 e9
  cases p with
  | some a =>
    go_enter Try.func33, Try.ntmps33
    go_wp2_with fail
    go_ret
    exact ⟨_, rfl, NG.start HH.out, EN.out.mono (fun _ e => .inl e) (fun _ e => e)⟩
  | none =>
    by_cases hz : Maps.size D = 0
    · go_enter Try.func33, Try.ntmps33
      go_wp2_with fail
      go_ret
      exact ⟨_, rfl, NG.start HH.out, EN.out.mono (fun _ e => .inl e) (fun _ e => e)⟩
    · have hdec : decide ((0 : Int) < (Maps.size D : Int)) = true := decide_eq_true (by omega)
      go_enter Try.func33, Try.ntmps33
      go_wp2_with (first
        | (go_at_call 50; refine (mk50 _ _).mono ?_; rintro e w1 ⟨rfl, rfl⟩)
        | (go_at_call 43; refine (sorted50 HD.out HK.out).mono ?_; rintro e w2 ⟨sv, ks, rfl, hsv, hks, hk5, hsb, hb2⟩; obtain ⟨sp, sc, hev, hsp, hsc⟩ := own_at hsv; subst hev))
      have e1 : (w.alloc (.cells #[.map (some F.qm)] 61)).heap.size = w.heap.size + 1 := by simp
      have hb3 : Below w.heap.size w w2 := ((Below.refl _ _).alloc (Nat.le_refl _) _).trans (hb2.mono (by omega))
      have h9 : N 9 = .slice none xs.length cp := by
        have := World.rowIs.cell HN.out.nrow (i := 9) (by omega)
        rw [c9] at this
        exact (Option.some.inj this).symm
      have x0 : xs.length = 0 := by
        cases hxl : xs.length with
        | zero => rfl
        | succ k => obtain ⟨g, hg⟩ := hp9 (by omega); cases hg
      have h90 : N 9 = .slice none 0 0 := by
        obtain ⟨ys, hy, _⟩ := HN.out.car
        rw [h9] at hy
        rcases hy.2 with ⟨e, _⟩ | ⟨g, cap', cur, e, _⟩
        · rw [h9, e]
        · cases e
      have HB : Hid (Build S w w2 F Dd c r ab cap L φ ks (.slice sp ks.length sc) 0) := by
        refine ⟨N, G, pid, P, K, [], (HN.out.below hb3).mono (fun _ e => .inl e) (fun _ e => e) HN.out.dnm (Nat.le_refl _) (fun _ _ e => e), ?_, rfl, ?_, hks, ?_, (Touch.refl _ _).below hb3, hsv⟩
        · rw [h90]; exact World.ownsRow_nil _ _ _ _
        · intro x hx; cases hx
        · intro g hg; rw [h90] at hg; cases hg
      clear hlen hnil c9 c8 hsv hks hsb hb2 hb3 h9 h90 x0 hsp hsc hp9 e1
      go_loopw [25] (fun i wr => ∃ j : Nat, j ≤ ks.length ∧ i = .int .i64 j ∧ Build S w wr F Dd c r ab cap L φ ks (.slice sp ks.length sc) j) (fun i _ => ks.length - (intOf i).toNat)
      case atStart => exact ⟨0, Nat.zero_le _, rfl, HB.out⟩
      case round =>
        obtain ⟨j, hj, rfl, hbd⟩ := hrel
        clear HB
        by_cases hlt : j < ks.length
        · obtain ⟨N, G, pid, P, K, ys, hn, hy1, hy2, hy3, hy4, hy5, hy6, hy7⟩ := hbd
          have hku : K ks[j] := hy4 _ (List.getElem_mem hlt)
          obtain ⟨p7, c7, e7, hp7, hc7⟩ := own_at hy7
          simp only [Value.slice.injEq] at e7
          obtain ⟨e7, -, -⟩ := e7
          subst e7
          obtain ⟨gs, e7⟩ := hp7 (by omega)
          subst e7
          have d0 := ((hc7 gs rfl).2 j (by simpa using hlt)).1
          rw [List.getElem_map] at d0
          obtain ⟨p9, cp9, e9, hp9, hc9⟩ := entries_at hy1
          have c9 : wr.cell? ⟨F.nb, 9, none⟩ = some (.slice p9 j cp9) := by rw [← hy2, ← e9]; exact World.rowIs.cell hn.nrow (by omega)
          have c8 : wr.cell? ⟨F.nb, 8, none⟩ = some (.map (some F.qm)) := by rw [← hn.n8]; exact World.rowIs.cell hn.nrow (by omega)
          have f9 := hn.fz 9
          have hnl := World.rowIs.lt hn.nrow
          obtain ⟨t, b, hlk, hwt, hbt, hbf⟩ := hn.qmap.look ks[j]
          have hb1 : b = true := by
            cases b with
            | true => rfl
            | false => exact absurd hku (hbf rfl).2
          subst hb1
          have hdu := (hbt rfl).1
          generalize ks[j] = u at d0 hlk hdu hku
          obtain ⟨i9, hi9, hz0, hz1, hz2⟩ := info_parts info91
          obtain ⟨v', w5, hap, hown5, hg5, hnil5, hloc5⟩ := run_append_own_at (P := Try.prog) (wr.alloc (.cells #[.string (idb u), .int .u64 t, .bool true] 91)).drew 0 41 41 91 i9 (.agg #[.string ByteArray.empty, .int .u64 0, .bool false]) 3 32 Try.underlying41 hi9 hz0 hz1 hz2 rfl (by decide) (N 9) ys.length (cellsOf ys) (hy1.alloc _) ⟨wr.heap.size, 0, none⟩ 1 1 [.string (idb u), .int .u64 t, .bool true] rfl (by
              intro k x hk
              match k, hk with
              | 0, hk => simp at hk; subst hk; show (wr.alloc _).cell? _ = _; simp [Addr.add]
              | 1, hk => simp at hk; subst hk; show (wr.alloc _).cell? _ = _; simp [Addr.add]
              | 2, hk => simp at hk; subst hk; show (wr.alloc _).cell? _ = _; simp [Addr.add]) (by simp [Value.oneCell']) (by unfold maxLen; omega) (by omega) (Nat.zero_le _)
          rw [e9, hy2] at hap
          have hl1 := hlk 1
          rw [← World.drew_is_drewN] at hl1
          obtain ⟨p5, c5, e5⟩ : ∃ p5 c5, v' = .slice p5 (j + 1) c5 := by
            rw [hy2] at hown5
            rcases hown5.2 with ⟨_, e⟩ | ⟨g, cp5, cur, e, _⟩
            · omega
            · exact ⟨_, _, e⟩
          subst e5
          have e5s : w5.heap.size ≥ wr.heap.size + 1 := by have := hg5.size; simpa using this
          have hne9 : some F.nb ≠ (N 9).ownBlock := by
            intro e
            have h1 := tag_own hy1 e.symm
            rw [tag_row hn.nrow] at h1
            cases h1
          have fr5 : w5.cell? ⟨F.nb, 9, none⟩ = some (.slice p9 j cp9) := by
            refine hg5.cell ?_ ?_
            · show (wr.alloc _).cell? _ = _
              rw [← c9]
              exact World.cell?_of_block (w := wr) (Below.heap_alloc _ _ _ hnl)
            · exact hne9
          have ff5 : w5.frozen? ⟨F.nb, 9, none⟩ = false := by
            rw [World.frozen?_of_block (w := (wr.alloc (.cells #[.string (idb u), .int .u64 t, .bool true] 91)).drew) (hg5.block F.nb (by simp; omega) hne9)]
            show (wr.alloc _).frozen? _ = _
            rw [← f9]
            exact World.frozen?_of_block (w := wr) (Below.heap_alloc _ _ _ hnl)
          have HBN : Hid (Build S w (w5.setCell ⟨F.nb, 9, none⟩ (.slice p5 (j + 1) c5)) F Dd c r ab cap L φ ks (.slice (some ⟨gs, 0, none⟩) ks.length sc) (j + 1)) := Build.step hn hy1 hy2 hy3 hy4 hy5 hy6 hy7 hlt hk5 hdu hwt hown5 hg5 hloc5
          clear hn hy1 hy3 hy4 hy5 hy6 hy7 hlk hbt hbf hown5 hg5 hnil5 hloc5 hc7 hp7 hp9 hc9
          go_upto_region 5 with fail
          go_region_law (refine step_append_run rfl (.tmp 33) (.tmp 42) 41 41 rfl (.slice p9 j cp9) (.slice (some ⟨wr.heap.size, 0, none⟩) 1 1) (by simp [Act.eval]) (by simp [Act.eval]) _ _ hap ?_)
          all_goals (clear fr5 ff5 hap hl1 c9 c8 f9 d0)
          all_goals (go_wp2_with fail)
          all_goals go_roundw
          all_goals first
            | exact ⟨j + 1, by omega, by go_num, HBN.out⟩
            | (simp [intOf]; omega)
        · obtain ⟨N, G, pid, P, K, ys, hn, hy1, hy2, hy3, hy4, hy5, hy6, hy7⟩ := hbd
          obtain ⟨p9, cp9, e9, hp9, hc9⟩ := entries_at hy1
          have c9 : wr.cell? ⟨F.nb, 9, none⟩ = some (.slice p9 ys.length cp9) := by rw [← e9]; exact World.rowIs.cell hn.nrow (by omega)
          rw [e9] at hy1
          have HDG : Hid (Calls Try.prog 51 #[.slice p9 ys.length cp9] wr (DigPost wr)) := digest_any (.slice p9 ys.length cp9) ys wr hy1 (by omega) (fun x hx => (hy3 x hx).2)
          have HNX : Hid (NodeIs (grow S w wr) wr F Dd c r ab cap L φ N G pid P K ∧ Touch S w wr ∧ N 9 = .slice p9 ys.length cp9) := ⟨hn, hy6, e9⟩
          clear hn hy1 hy3 hy4 hy5 hy6 hy7 hp9 hc9 e9 hy2
          have HLT := World.rowIs.lt HNX.out.1.nrow
          go_wp2_with (go_at_call 51; refine HDG.out.mono ?_; rintro e w3 ⟨zd, hzd, rfl, hb3⟩; have c93 := (hb3.cell (p := ⟨F.nb, 9, none⟩) HLT).trans c9; have f3 := (HNX.out.1.below hb3).fz 10; have hnl3 := World.rowIs.lt (HNX.out.1.below hb3).nrow; obtain ⟨z10, -, c103⟩ := (HNX.out.1.below hb3).cu 10 (by omega) rfl)
          go_ret
          have hsz : (w3.setCell ⟨F.nb, 10, none⟩ (.int .u64 zd)).heap.size = w3.heap.size := by simp [World.setCell]
          have hn3 := (((HNX.out.1.below hb3).setP 10 (.int .u64 zd) (by simp) (Ty.mku _ hzd)).mono (S' := grow S w (w3.setCell ⟨F.nb, 10, none⟩ (.int .u64 zd))) (fun _ e => grow_mono (by rw [hsz]; exact hb3.size) e) (fun _ e => e) HNX.out.1.dnm (Nat.le_refl _) (fun _ _ e => e))
          refine ⟨_, rfl, ⟨⟨_, _, _, _, _, hn3⟩, Touch.setCell (HNX.out.2.1.below hb3) (grow_mono hb3.size HNX.out.1.inS.1) _⟩, ?_⟩
          have hcar := hn3.car
          rw [put_other _ _ _ _ (by decide), HNX.out.2.2] at hcar
          exact hcar
end Go.Proofs.Qxb6002353a
