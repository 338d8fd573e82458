import Derived.Test.Qxb6002353aHeld
import Derived.Deep.RegionLaw
namespace Go.Proofs.Qxb6002353a
open Go.RowKit Go.Maps

/-- a list of pairs under way, laid aside of all that was there: j of them are laid -/
def Aside (w wr : World) (Dd : UInt8 → Prop) (ks : List UInt8) (sv v : Value) (j : Nat) : Prop :=
  ∃ (xs : List (UInt8 × Int)), wr.ownsRow 0 91 3 v xs.length (cellsOf xs) ∧ xs.length = j ∧ (∀ x ∈ xs, Dd x.1 ∧ (Lit.int .u64 x.2).wf = true) ∧ (∀ g, v.ownBlock = some g → w.heap.size ≤ g) ∧ Below w.heap.size w wr ∧ wr.ownsRow 0 9 1 sv ks.length (ks.map fun u => .string (idb u))

theorem Aside.step {w wr w5 : World} {Dd : UInt8 → Prop} {ks : List UInt8} {ys : List (UInt8 × Int)} {u : UInt8} {t : Int} {j : Nat} {sv v v' : Value} {o : Obj}
    (hy1 : wr.ownsRow 0 91 3 v ys.length (cellsOf ys)) (hy2 : ys.length = j) (hy3 : ∀ x ∈ ys, Dd x.1 ∧ (Lit.int .u64 x.2).wf = true) (hy5 : ∀ g, v.ownBlock = some g → w.heap.size ≤ g) (hy6 : Below w.heap.size w wr) (hy7 : wr.ownsRow 0 9 1 sv ks.length (ks.map fun u => .string (idb u)))
    (hdu : Dd u) (hwt : (Lit.int .u64 t).wf = true)
    (hown5 : w5.ownsRow 0 91 3 v' (ys.length + 1) (cellsOf ys ++ [.string (idb u), .int .u64 t, .bool true]))
    (hg5 : (wr.alloc o).grownBy w5 v.ownBlock)
    (hloc5 : v'.ownBlock = v.ownBlock ∨ v'.ownBlock = some (wr.alloc o).heap.size) :
    Aside w w5 Dd ks sv v' (j + 1) := by
  have e5s : w5.heap.size ≥ wr.heap.size + 1 := by have := hg5.size; simpa using this
  have hcl : cellsOf (ys ++ [(u, t)]) = cellsOf ys ++ [.string (idb u), .int .u64 t, .bool true] := by simp [cellsOf]
  have hyl : (ys ++ [(u, t)]).length = ys.length + 1 := by simp
  have hws := hy6.size
  have hg0 : wr.grownBy w5 v.ownBlock := by
    refine ⟨hg5.os, hg5.tape, hg5.output, by omega, fun k hk hne => ?_⟩
    rw [hg5.block k (by simp; omega) hne]
    exact Below.heap_alloc _ _ _ hk
  refine ⟨ys ++ [(u, t)], by rw [hcl, hyl]; exact hown5, by omega, ?_, ?_, ?_, ?_⟩
  · intro x hx
    rcases List.mem_append.1 hx with e | e
    · exact hy3 x e
    · simp only [List.mem_singleton] at e
      rw [e]
      exact ⟨hdu, hwt⟩
  · intro g hg
    rcases hloc5 with e | e
    · exact hy5 g (by rw [← e]; exact hg)
    · rw [hg] at e
      simp only [Option.some.injEq] at e
      simp at e
      omega
  · refine hy6.trans ⟨hg0.os, hg0.tape, hg0.output, hg0.size, fun k hk => hg0.block k (by omega) (fun e => ?_)⟩
    have := hy5 k e.symm
    omega
  · cases hs : sv.ownBlock with
    | none => exact hy7.kept hg0 (.inl hs)
    | some g =>
      refine hy7.kept hg0 (.inr (fun e => ?_))
      rw [hs] at e
      have h1 := tag_own hy7 hs
      have h2 := tag_own hy1 e.symm
      rw [h1] at h2
      cases h2

theorem cell_three_new (wr : World) (a b c : Value) (t : Nat) : ∀ (k : Nat) (x : Value), [a, b, c][k]? = some x → (wr.alloc (.cells #[a, b, c] t)).cell? (Addr.add ⟨wr.heap.size, 0, none⟩ k) = some x := by
  intro k x hk
  match k, hk with
  | 0, hk => simp at hk; subst hk; simp [Addr.add]
  | 1, hk => simp at hk; subst hk; simp [Addr.add]
  | 2, hk => simp at hk; subst hk; simp [Addr.add]

/-- what the node owes is handed on: the list is the node's own, or laid aside -/
def PassPost (S : Nat → Prop) (w : World) (F : Fx) (Dd : UInt8 → Prop) (c : Nat) (r : Int) (ab cap : Nat) (L : List Nat) (φ : Nat → UInt8 → Value → Value → Value → Prop) (e : Ending) (w' : World) : Prop :=
  ∃ v, e = .returned v ∧ NG S w w' F Dd c r ab cap L φ ∧ Entries (grow S w w') w' Dd v

/-- the news are cleared and a flag is set: the node is kept, and so is a list of pairs -/
theorem NodeIs.cleared {S : Nat → Prop} {w w1 w2 : World} {F : Fx} {Dd K : UInt8 → Prop} {c : Nat} {r : Int} {ab cap : Nat} {L : List Nat} {φ : Nat → UInt8 → Value → Value → Value → Prop} {N G : Nat → Value} {pid : Nat → UInt8} {P : Nat → Nat → Value} {v : Value}
    (h : NodeIs (grow S w w1) w1 F Dd c r ab cap L φ N G pid P K) (ht : Touch S w w1) (he : Entries (grow S w w1) w1 Dd v) (hq : NewsMap w2 F.nm K) (hg : w1.grownBy w2 (some F.nm)) (b : Bool) :
    NG S w (w2.setCell ⟨F.nb, 14, none⟩ (.bool b)) F Dd c r ab cap L φ ∧ Entries (grow S w (w2.setCell ⟨F.nb, 14, none⟩ (.bool b))) (w2.setCell ⟨F.nb, 14, none⟩ (.bool b)) Dd v := by
  have hz : (w2.setCell ⟨F.nb, 14, none⟩ (.bool b)).heap.size = w2.heap.size := by simp [World.setCell]
  have hS : ∀ i, grow S w w1 i → grow S w (w2.setCell ⟨F.nb, 14, none⟩ (.bool b)) i := fun i hi => grow_mono (by rw [hz]; exact hg.size) hi
  have h2 := (h.setW hg hq).setP 14 (.bool b) (by decide) (Ty.mkb _)
  have tn := h.nmap.tag
  have e2 : Entries (grow S w w1) w2 Dd v := he.kept hg (fun g hgv e => by cases e; have := he.tag hgv; rw [tn] at this; cases this)
  refine ⟨⟨⟨_, _, _, _, _, h2.mono hS (fun _ e => e) h.dnm (Nat.le_refl _) (fun _ _ e => e)⟩, ?_⟩, ?_⟩
  · exact Touch.setCell (ht.grown hg (fun k e => by cases e; exact h.inS.2.2.2.2.2.1)) (grow_mono hg.size h.inS.1) _
  · refine (e2.kept (grownBy_setCell w2 ⟨F.nb, 14, none⟩ _) (fun g hgv e => ?_)).mono hS (fun _ e => e)
    cases e
    have h1 := e2.tag hgv
    rw [tag_row (h.setW hg hq).nrow] at h1
    cases h1

set_option maxHeartbeats 16000000 in
set_option maxRecDepth 100000 in
theorem pass_news {S : Nat → Prop} {w : World} {F : Fx} {Dd : UInt8 → Prop} {c : Nat} {r : Int} {ab cap : Nat} {L : List Nat} {φ : Nat → UInt8 → Value → Value → Value → Prop} (h : NodeOK S w F Dd c r ab cap L φ) :
    Calls Try.prog 28 #[.pointer (some ⟨F.nb, 0, none⟩), .bool false] w (PassPost S w F Dd c r ab cap L φ) := by
  obtain ⟨N, G, pid, P, K, h⟩ := h
  have c11 : w.cell? ⟨F.nb, 11, none⟩ = some (.map (some F.nm)) := by rw [← h.n11]; exact World.rowIs.cell h.nrow (by omega)
  obtain ⟨D, hD, hD1⟩ := h.nmap
  have hnl := World.rowIs.lt h.nrow
  have HN : Hid (NodeIs S w F Dd c r ab cap L φ N G pid P K) := h
  have HD : Hid (w.ownsMap Try.prog 9 RV F.nm 5 D) := hD
  have HK : Hid (∀ l, Maps.has D (.string l) = true → ∃ u, l = [u] ∧ K u) := hD1
  clear hD hD1 h
  go_enter Try.func28, Try.ntmps28
  go_wp2_with (first
    | (go_at_call 44; refine (mk44 _ _).mono ?_; rintro e w1 ⟨rfl, rfl⟩)
    | (go_at_call 43; refine (sorted44 HD.out HK.out).mono ?_; rintro e w2 ⟨sv, ks, rfl, hsv, hks, hk5, hsb, hb2⟩; obtain ⟨sp, sc, hev, hsp, hsc⟩ := own_at hsv; subst hev))
  have e1 : (w.alloc (.cells #[.map (some F.nm)] 62)).heap.size = w.heap.size + 1 := by simp
  have HB : Hid (Aside w w2 Dd ks (.slice sp ks.length sc) (.slice none 0 0) 0) := by
    refine ⟨[], World.ownsRow_nil _ _ _ _, rfl, ?_, ?_, ((Below.refl _ _).alloc (Nat.le_refl _) _).trans (hb2.mono (by omega)), hsv⟩
    · intro x hx; cases hx
    · intro g hg; cases hg
  have HKS : Hid (∀ u ∈ ks, K u) := hks
  clear c11 hsv hsb hb2 hsp hsc e1 hks
  go_loopw [18, 5] (fun i v wr => ∃ j : Nat, j ≤ ks.length ∧ i = .int .i64 j ∧ Aside w wr Dd ks (.slice sp ks.length sc) v j) (fun i _ _ => ks.length - (intOf i).toNat)
  case atStart => exact ⟨0, Nat.zero_le _, rfl, HB.out⟩
  case round =>
    obtain ⟨j, hj, rfl, hbd⟩ := hrel
    clear HB
    obtain ⟨ys, hy1, hy2, hy3, hy5, hy6, hy7⟩ := hbd
    obtain ⟨p9, cp9, e9, hp9, hc9⟩ := entries_at hy1
    subst e9
    have hn := HN.out.below hy6
    by_cases hlt : j < ks.length
    · have hku : K ks[j] := HKS.out _ (List.getElem_mem hlt)
      obtain ⟨p7, c7, e7, hp7, hc7⟩ := own_at hy7
      simp only [Value.slice.injEq] at e7
      obtain ⟨e7, -, -⟩ := e7
      subst e7
      obtain ⟨gs, e7⟩ := hp7 (by omega)
      subst e7
      have d0 := ((hc7 gs rfl).2 j (by simpa using hlt)).1
      rw [List.getElem_map] at d0
      have c8 : wr.cell? ⟨F.nb, 8, none⟩ = some (.map (some F.qm)) := by rw [← hn.n8]; exact World.rowIs.cell hn.nrow (by omega)
      have hnlr := World.rowIs.lt hn.nrow
      obtain ⟨t, b, hlk, hwt, hbt, hbf⟩ := hn.qmap.look ks[j]
      have hb1 : b = true := by
        cases b with
        | true => rfl
        | false => exact absurd hku (hbf rfl).2
      subst hb1
      have hdu := (hbt rfl).1
      generalize ks[j] = u at d0 hlk hdu hku
      obtain ⟨i9, hi9, hz0, hz1, hz2⟩ := info_parts info91
      have hl1 : (Instr.lookup 61 (.map (some F.qm)) (.string (idb u)) false).run Try.prog wr = .ok (.agg #[.int .u64 t, .bool true]) wr := hlk 0
      have HX : Hid (wr.ownsRow 0 91 3 (.slice p9 ys.length cp9) ys.length (cellsOf ys)) := hy1
      have HY : Hid ((∀ x ∈ ys, Dd x.1 ∧ (Lit.int .u64 x.2).wf = true) ∧ (∀ g, (Value.slice p9 ys.length cp9).ownBlock = some g → w.heap.size ≤ g) ∧ Below w.heap.size w wr ∧ wr.ownsRow 0 9 1 (.slice (some ⟨gs, 0, none⟩) ks.length sc) ks.length (ks.map fun u => .string (idb u))) := ⟨hy3, hy5, hy6, hy7⟩
      clear hn hy1 hy3 hy5 hy6 hy7 hlk hbt hbf hc7 hp7 hp9 hc9
      go_wp2_with (at_builtin; refine wpList_append_own_at _ rfl _ _ 41 rfl 0 91 i9 (.agg #[.string ByteArray.empty, .int .u64 0, .bool false]) 3 32 Try.underlying41 hi9 hz0 hz1 hz2 rfl (by decide) _ _ _ rfl (HX.out.alloc _) ⟨wr.heap.size, 0, none⟩ 1 1 [.string (idb u), .int .u64 t, .bool true] rfl rfl (cell_three_new _ _ _ _ _) (by simp [Value.oneCell']) (by unfold maxLen; omega) (by omega) (by simp) ?_; intro v' w5 hown5 hg5 hnil5 hloc5)

      have HBN : Hid (Aside w w5 Dd ks (.slice (some ⟨gs, 0, none⟩) ks.length sc) v' (j + 1)) := Aside.step HX.out hy2 HY.out.1 HY.out.2.1 HY.out.2.2.1 HY.out.2.2.2 hdu hwt hown5 hg5 hloc5
      all_goals first
        | exact ⟨⟨j + 1, by omega, by go_num, HBN.out⟩, by simp [intOf]; omega⟩
        | (go_wp2_with fail
           first
           | exact ⟨⟨j + 1, by omega, by go_num, HBN.out⟩, by simp [intOf]; omega⟩
           | (go_roundw
              · exact ⟨j + 1, by omega, by go_num, HBN.out⟩
              · simp [intOf]; omega))
    · have c11 : wr.cell? ⟨F.nb, 11, none⟩ = some (.map (some F.nm)) := by rw [← hn.n11]; exact World.rowIs.cell hn.nrow (by omega)
      obtain ⟨w6, hcl, hq6, hg6⟩ := hn.nmap.clear
      have hent : Hid (Entries (grow S w wr) wr Dd (.slice p9 ys.length cp9)) := ⟨ys, hy1, hy3, by omega, fun g hg => .inr ⟨hy5 g hg, (hy1.lt g hg).2⟩⟩
      have hnS : NodeIs (grow S w wr) wr F Dd c r ab cap L φ N G pid P K := hn.mono (fun _ e => .inl e) (fun _ e => e) hn.dnm (Nat.le_refl _) (fun _ _ e => e)
      have HF := NodeIs.cleared hnS ((Touch.refl _ _).below hy6) hent.out hq6 hg6 false
      have HFH : Hid (NG S w (w6.setCell ⟨F.nb, 14, none⟩ (.bool false)) F Dd c r ab cap L φ ∧ Entries (grow S w (w6.setCell ⟨F.nb, 14, none⟩ (.bool false))) (w6.setCell ⟨F.nb, 14, none⟩ (.bool false)) Dd (.slice p9 ys.length cp9)) := HF
      have f14 := (hn.setW hg6 hq6).fz 14
      obtain ⟨b14, hb14⟩ := (hn.setW hg6 hq6).cb 14 (by decide) (by decide)
      have hnl6 := World.rowIs.lt (hn.setW hg6 hq6).nrow
      clear hn hy1 hy3 hy5 hy6 hy7 hp9 hc9 HF hnS hent hq6 hg6
      go_wp2_with fail
      go_ret
      exact ⟨_, rfl, HFH.out.1, HFH.out.2⟩

set_option maxHeartbeats 16000000 in
set_option maxRecDepth 100000 in
theorem pass_all {S : Nat → Prop} {w : World} {F : Fx} {Dd : UInt8 → Prop} {c : Nat} {r : Int} {ab cap : Nat} {L : List Nat} {φ : Nat → UInt8 → Value → Value → Value → Prop} (h : NodeOK S w F Dd c r ab cap L φ) :
    Calls Try.prog 28 #[.pointer (some ⟨F.nb, 0, none⟩), .bool true] w (PassPost S w F Dd c r ab cap L φ) := by
  have HN : Hid (NodeOK S w F Dd c r ab cap L φ) := h
  clear h
  go_enter Try.func28, Try.ntmps28
  go_upto_region 9 with (go_at_call 33; refine (held_any HN.out).mono ?_; rintro e w1 ⟨v, rfl, ⟨⟨N, G, pid, P, K, hn⟩, ht⟩, he⟩)
  have HE : Hid (Entries (grow S w w1) w1 Dd v) := he
  obtain ⟨xs, he1, -⟩ := he
  obtain ⟨p9, cp9, e9, -, -⟩ := entries_at he1
  subst e9
  have c11 : w1.cell? ⟨F.nb, 11, none⟩ = some (.map (some F.nm)) := by rw [← hn.n11]; exact World.rowIs.cell hn.nrow (by omega)
  obtain ⟨w6, hcl, hq6, hg6⟩ := hn.nmap.clear
  have HF := NodeIs.cleared hn ht HE.out hq6 hg6 false
  have HFH : Hid (NG S w (w6.setCell ⟨F.nb, 14, none⟩ (.bool false)) F Dd c r ab cap L φ ∧ Entries (grow S w (w6.setCell ⟨F.nb, 14, none⟩ (.bool false))) (w6.setCell ⟨F.nb, 14, none⟩ (.bool false)) Dd (.slice p9 xs.length cp9)) := HF
  have f14 := (hn.setW hg6 hq6).fz 14
  obtain ⟨b14, hb14⟩ := (hn.setW hg6 hq6).cb 14 (by decide) (by decide)
  have hnl6 := World.rowIs.lt (hn.setW hg6 hq6).nrow
  have hnl1 := World.rowIs.lt hn.nrow
  clear hn ht he1 HF hq6 hg6 HE
  go_wp2_with fail
  go_ret
  exact ⟨_, rfl, HFH.out.1, HFH.out.2⟩

theorem pass_any {S : Nat → Prop} {w : World} {F : Fx} {Dd : UInt8 → Prop} {c : Nat} {r : Int} {ab cap : Nat} {L : List Nat} {φ : Nat → UInt8 → Value → Value → Value → Prop} (h : NodeOK S w F Dd c r ab cap L φ) (b : Bool) :
    Calls Try.prog 28 #[.pointer (some ⟨F.nb, 0, none⟩), .bool b] w (PassPost S w F Dd c r ab cap L φ) := by
  cases b
  · exact pass_news h
  · exact pass_all h
end Go.Proofs.Qxb6002353a
