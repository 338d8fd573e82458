/-
  slices.Insert OF ONE PEER.
-/
import Derived.Test.Qxb6002353aSrch
import Derived.Shelf.Spec.SlicesInsert
import Derived.Lib.AppendZerosOnto
import Derived.Laws.NewBlocks
import Derived.Deep.RegionLaw
namespace Go.Proofs.Qxb6002353a
open Go.RowKit Go.Maps Go.Lib

theorem info74 : (Try.prog.info? 74).map (fun i => (i.zero, i.size, i.bytes)) = some (some (.pointer none), 1, 8) := by kernel_rfl

theorem rowIs_cells {b t n : Nat} : ∀ (vs : List Value) (o : Nat) {w : World} {f : Nat → Value}, w.rowIs b t n f → (w.setCells b o vs).rowIs b t n (fun j => if o ≤ j ∧ j < o + vs.length then vs.getD (j - o) undef else f j)
  | [], o, w, f, h => World.rowIs.congr h (fun j _ => by rw [if_neg (by simp)])
  | v :: r, o, w, f, h => by
    refine World.rowIs.congr (rowIs_cells r (o + 1) (rowIs_put h o v)) (fun j _ => ?_)
    by_cases e : j = o
    · subst e
      rw [if_neg (by omega), put_same, if_pos (by simp)]
      simp
    · rw [put_other _ _ _ _ e]
      by_cases h1 : o + 1 ≤ j ∧ j < o + 1 + r.length
      · rw [if_pos h1, if_pos (by simp; omega)]
        rw [show j - o = (j - (o + 1)) + 1 by omega]
        simp
      · rw [if_neg h1, if_neg (by simp; omega)]

theorem grown_cells (b : Nat) : ∀ (vs : List Value) (o : Nat) {a w : World}, a.grownBy w (some b) → a.grownBy (w.setCells b o vs) (some b)
  | [], _, _, _, h => h
  | v :: r, o, _, _, h => grown_cells b r (o + 1) (h.trans (grownBy_setCell _ ⟨b, o, none⟩ v))

/-- a row with one more, at i -/
def ins (G : Nat → Value) (i : Nat) (x : Value) (j : Nat) : Value := if j < i then G j else if j = i then x else G (j - 1)

def InsPost (w : World) (ab n i : Nat) (G : Nat → Value) (x : Value) (e : Ending) (w' : World) : Prop :=
  ∃ ab' cap' G', e = .returned (.slice (some ⟨ab', 0, none⟩) (n + 1) cap') ∧ w'.rowIs ab' 74 cap' G' ∧ n + 1 ≤ cap' ∧ cap' ≤ maxLen ∧ (∀ j, j < n + 1 → G' j = ins G i x j) ∧ w.grownBy w' (some ab) ∧ (ab' = ab ∨ w.heap.size ≤ ab')

def lst (G : Nat → Value) (n : Nat) : List Value := (List.range n).map G
theorem lst_len (G : Nat → Value) (n : Nat) : (lst G n).length = n := by simp [lst]
theorem lst_get (G : Nat → Value) (n j : Nat) (h : j < n) : (lst G n)[j]? = some (G j) := by simp [lst, h]

theorem row_owns {w : World} {b t n cap : Nat} {G : Nat → Value} (h : w.rowIs b t cap G) (hn : n ≤ cap) (hc : cap ≤ maxLen) : w.ownsRow 0 t 1 (.slice (some ⟨b, 0, none⟩) n cap) n (lst G n) := by
  obtain ⟨c, hb, hs, hf⟩ := h
  refine ⟨by rw [lst_len]; omega, .inr ⟨b, cap, c, rfl, Nat.zero_le _, hb, hn, hc, by omega, ?_⟩⟩
  apply List.ext_getElem?
  intro j
  by_cases hj : j < n
  · rw [lst_get _ _ _ hj, List.getElem?_take, if_pos (by omega)]
    have := hf j (by omega)
    simpa using this
  · rw [List.getElem?_eq_none (by rw [List.length_take]; omega), List.getElem?_eq_none (by rw [lst_len]; omega)]

theorem owns_row {w : World} {t n : Nat} {v : Value} {xs : List Value} (h : w.ownsRow 0 t 1 v n xs) (h0 : 0 < n) : ∃ b cap G, v = .slice (some ⟨b, 0, none⟩) n cap ∧ v.ownBlock = some b ∧ w.rowIs b t cap G ∧ n ≤ cap ∧ cap ≤ maxLen ∧ ∀ j, j < n → xs[j]? = some (G j) := by
  obtain ⟨hl, h⟩ := h
  rcases h with ⟨rfl, rfl⟩ | ⟨g, cap, cur, rfl, _, hb, hn, hc, hs, ht⟩
  · simp at hl; omega
  · refine ⟨g, cap, fun j => cur.getD j undef, rfl, rfl, ⟨cur, hb, by omega, fun j hj => by simp [Array.getD, show j < cur.size by omega]⟩, hn, hc, fun j hj => ?_⟩
    rw [← ht, List.getElem?_take, if_pos (by omega)]
    simp [Array.getD, show j < cur.size by omega]

/-- at the end: an append -/
theorem ins_end {w w1 : World} {ab n cap : Nat} {G : Nat → Value} {x v' : Value} (hown : w1.ownsRow 0 74 1 v' (n + 1) (lst G n ++ [x])) (hg : w.grownBy w1 (some ab)) (hloc : v'.ownBlock = (Value.slice (some ⟨ab, 0, none⟩) n cap).ownBlock ∨ v'.ownBlock = some w.heap.size) : InsPost w ab n n G x (.returned v') w1 := by
  obtain ⟨b, cap', G', rfl, hb, hr, h1, h2, h3⟩ := owns_row hown (by omega)
  refine ⟨b, cap', G', rfl, hr, h1, h2, fun j hj => ?_, hg, ?_⟩
  · have := h3 j hj
    unfold ins
    by_cases e : j < n
    · rw [if_pos e]
      rw [List.getElem?_append_left (by rw [lst_len]; exact e), lst_get _ _ _ e] at this
      exact (Option.some.inj this).symm
    · have e2 : j = n := by omega
      subst e2
      rw [if_neg e, if_pos rfl]
      rw [List.getElem?_append_right (by rw [lst_len]; exact Nat.le_refl _), lst_len] at this
      simp at this
      exact this.symm
  · rw [hb] at hloc
    simp only [Value.ownBlock, Option.some.injEq] at hloc
    rcases hloc with e | e
    · exact .inl e
    · exact .inr (by omega)

/-- in the midst, there is room: two copies -/
theorem ins_mid {w : World} {ab n i cap : Nat} {G : Nat → Value} {x : Value} (hrow : w.rowIs ab 74 cap G) (hi : i < n) (hn : n + 1 ≤ cap) (hc : cap ≤ maxLen) : InsPost w ab n i G x (.returned (.slice (some ⟨ab, 0, none⟩) (n + 1) cap)) ((w.drew.setCells ab (i + 1) ((lst G n).drop i)).setCells ab i [x]) := by
  have h0 : w.drew.rowIs ab 74 cap G := World.rowIs.of_block hrow rfl
  have h2 := rowIs_cells [x] i (rowIs_cells ((lst G n).drop i) (i + 1) h0)
  refine ⟨ab, cap, _, rfl, h2, hn, hc, fun j hj => ?_, grown_cells _ _ _ (grown_cells _ _ _ (grownBy_drewN w 1 _)), .inl rfl⟩
  have hdl : ((lst G n).drop i).length = n - i := by rw [List.length_drop, lst_len]
  rw [hdl]
  unfold ins
  by_cases e1 : j < i
  · rw [if_neg (by omega), if_neg (by omega), if_pos e1]
  · by_cases e2 : j = i
    · subst e2
      rw [if_pos (by simp), if_neg e1, if_pos rfl]
      simp
    · rw [if_neg (by simp; omega), if_pos (by omega), if_neg e1, if_neg e2]
      have : ((lst G n).drop i)[j - (i + 1)]? = some (G (j - 1)) := by
        rw [List.getElem?_drop, show i + (j - (i + 1)) = j - 1 by omega]
        exact lst_get _ _ _ (by omega)
      simp [List.getD, this]

/-- in the midst, no room: a new row, two copies -/
theorem ins_grow {w : World} {ab n i G0 : Nat} {G : Nat → Value} {x : Value} {ROW : Array Value} (hi : i < n) (hR : ROW.size = G0) (hn : n + 1 ≤ G0) (hc : G0 ≤ maxLen) (hhead : ∀ j, j < i → ROW[j]? = some (G j)) :
    InsPost w ab n i G x (.returned (.slice (some ⟨w.heap.size, 0, none⟩) (n + 1) G0)) ((((w.alloc (.cells ROW 74)).drew.setCells w.heap.size i [x]).drew).setCells w.heap.size (i + 1) ((lst G n).drop i)) := by
  have h0 : (w.alloc (.cells ROW 74)).drew.rowIs w.heap.size 74 G0 (fun j => ROW.getD j undef) := by
    rw [← hR]
    exact World.rowIs.of_block (World.rowIs_alloc w ROW 74 _ (fun j hj => by simp [Array.getD, hj])) rfl
  have h1 := rowIs_cells [x] i h0
  have h1' : (((w.alloc (.cells ROW 74)).drew.setCells w.heap.size i [x]).drew).rowIs w.heap.size 74 G0 _ := World.rowIs.of_block h1 rfl
  have h2 := rowIs_cells ((lst G n).drop i) (i + 1) h1'
  have hg : ∀ (vs : List Value) (o : Nat) (W : World), w.grownBy W (some w.heap.size) → w.grownBy (W.setCells w.heap.size o vs) (some w.heap.size) := fun vs o W h => grown_cells _ vs o h
  have hg4 := hg ((lst G n).drop i) (i + 1) _ ((hg [x] i _ ((World.grownBy_alloc w (.cells ROW 74) (some w.heap.size)).trans (grownBy_drewN _ 1 _))).trans (grownBy_drewN _ 1 _))
  refine ⟨w.heap.size, G0, _, rfl, h2, hn, hc, fun j hj => ?_, ⟨hg4.os, hg4.tape, hg4.output, hg4.size, fun k hk _ => hg4.block k hk (by simp; omega)⟩, .inr (Nat.le_refl _)⟩
  have hdl : ((lst G n).drop i).length = n - i := by rw [List.length_drop, lst_len]
  rw [hdl]
  unfold ins
  by_cases e1 : j < i
  · rw [if_neg (by omega), if_neg (by simp; omega), if_pos e1]
    have := hhead j e1
    simp [Array.getD_eq_getD_getElem?, this]
  · by_cases e2 : j = i
    · subst e2
      rw [if_neg (by omega), if_pos (by simp), if_neg e1, if_pos rfl]
      simp
    · rw [if_pos (by omega), if_neg e1, if_neg e2]
      have : ((lst G n).drop i)[j - (i + 1)]? = some (G (j - 1)) := by
        rw [List.getElem?_drop, show i + (j - (i + 1)) = j - 1 by omega]
        exact lst_get _ _ _ (by omega)
      simp [List.getD, this]

theorem size74 : (Try.prog.info? 74).map (·.size) = some 1 := by kernel_rfl
theorem sizeof74 (w : World) : (Go.sizeOf 74).run Try.prog w = .ok 1 w := by kernel_rfl
theorem shape_row {w : World} {b t n : Nat} {f : Nat → Value} (h : w.rowIs b t n f) : w.shape? b = some (t, n) := by
  obtain ⟨c, hb, hs, hf⟩ := h
  simp [World.shape?, hb, hs]
theorem lst_mem {G : Nat → Value} {n : Nat} (hp : ∀ j, j < n → (G j).oneCell' = true) : ∀ v ∈ lst G n, v.oneCell' = true := by
  intro v hv
  obtain ⟨j, hj, rfl⟩ := List.mem_map.1 hv
  exact hp j (by simpa using hj)

set_option maxHeartbeats 8000000 in
set_option maxRecDepth 100000 in
theorem insert_end {w : World} {ab n cap vb pb : Nat} {G : Nat → Value} (hrow : w.rowIs ab 74 cap G) (hn : n ≤ cap) (hc : cap ≤ maxLen) (h5 : n ≤ 5) (hv : w.rowIs vb 74 1 (fun _ => .pointer (some ⟨pb, 0, none⟩))) :
    Calls Try.prog 55 #[.slice (some ⟨ab, 0, none⟩) n cap, .int .i64 (n : Int), .slice (some ⟨vb, 0, none⟩) 1 1] w (InsPost w ab n n G (.pointer (some ⟨pb, 0, none⟩))) := by
  have HO := hide0 (row_owns hrow hn hc)
  obtain ⟨i9, hi9, hz0, hz1, hz2⟩ := info_parts info74
  have hvc := World.rowIs.cell hv (i := 0) (by omega)
  have HV : Hid (∀ j u, [Value.pointer (some ⟨pb, 0, none⟩)][j]? = some u → w.cell? ((⟨vb, 0, none⟩ : Addr).add j) = some u) := fun j u hj => by
    cases j with
    | zero => simp at hj; subst hj; simpa [Addr.add] using hvc
    | succ j => simp at hj
  have hcn : (n : Int) ≤ (cap : Int) := by omega
  clear hrow hv hvc
  go_enter Try.func55, Try.ntmps55
  go_wp2_with (at_builtin; refine wpList_append_own_at _ rfl _ _ 60 rfl 0 74 i9 (.pointer none) 1 8 Try.underlying60 hi9 hz0 hz1 hz2 rfl (by decide) _ _ _ rfl HO.out ⟨vb, 0, none⟩ 1 1 [.pointer (some ⟨pb, 0, none⟩)] rfl rfl HV.out (by simp [Value.oneCell']) (by unfold maxLen; omega) (by omega) (by simp) ?_; intro v' w1 hown hgrow hnil hloc)
  all_goals
    go_ret
    exact ins_end hown hgrow hloc

set_option maxHeartbeats 8000000 in
set_option maxRecDepth 100000 in
theorem insert_mid {w : World} {ab n i cap vb pb : Nat} {G : Nat → Value} (hrow : w.rowIs ab 74 cap G) (hi : i < n) (hn : n + 1 ≤ cap) (hc : cap ≤ maxLen) (hp : ∀ j, j < n → (G j).oneCell' = true) (hv : w.rowIs vb 74 1 (fun _ => .pointer (some ⟨pb, 0, none⟩))) (hvb : vb ≠ ab) :
    Calls Try.prog 55 #[.slice (some ⟨ab, 0, none⟩) n cap, .int .i64 (i : Int), .slice (some ⟨vb, 0, none⟩) 1 1] w (InsPost w ab n i G (.pointer (some ⟨pb, 0, none⟩))) := by
  have hov : ∀ lb cb, (callFunc 75 #[.slice (some ⟨vb, 0, none⟩) 1 1, .slice (some ⟨ab, i + 1, none⟩) lb cb]).run Try.prog w = .ok (.value (.bool false)) w := fun lb cb => by
    rw [run_callFunc_extern Try.func75 (by kernel_rfl) (by kernel_rfl) (by kernel_rfl) (e := Extern.SlicesOverlaps.overlaps #[60, 60] #[4]) (by kernel_rfl),
      Lib.run_overlaps_apart w 60 4 74 Try.underlying60 1 sizeof74 ⟨vb, 0, none⟩ ⟨ab, i + 1, none⟩ 1 1 lb cb hvb 74 74 1 cap (shape_row hv) (shape_row hrow) (by omega) (World.rowIs.frozen hv 0) (World.rowIs.frozen hv 1)]
    rfl
  have hdl : ((lst G n).drop i).length = n - i := by rw [List.length_drop, lst_len]
  have hc63 : cap ≤ 9223372036854775807 := by unfold maxLen at hc; omega
  have hw1 : IntKind.i64.wrap ((i : Int) + 1) = (i : Int) + 1 := by rw [IntKind.wrap_i64]; omega
  have hb1 : (0 : Int) ≤ (i : Int) + 1 := by omega
  have hin : i ≤ n := by omega
  have htn : ((i : Int) + 1).toNat = i + 1 := by omega
  have hb2 : ¬ (cap = i + 1) := by omega
  have hb3 : (i : Int) ≤ (n : Int) + 1 := by omega
  have hb4 : ¬ (cap = i) := by omega
  have hz2 : ¬ ((i : Int) = (n : Int)) := by omega
  have hcs : ∀ j v, (lst G n)[j]? = some v → w.cell? ⟨ab, j, none⟩ = some v := fun j v hj => by
    by_cases h : j < n
    · rw [lst_get _ _ _ h] at hj
      rw [← hj]
      exact World.rowIs.cell hrow (by omega)
    · rw [List.getElem?_eq_none (by rw [lst_len]; omega)] at hj
      cases hj
  have hsp : ∀ j, j < n + 1 → (w.cell? ⟨ab, j, none⟩).isSome = true := fun j hj => by rw [World.rowIs.cell hrow (show j < cap by omega)]; rfl
  have hfz : ∀ j, w.frozen? ⟨ab, j, none⟩ = false := fun j => World.rowIs.frozen hrow j
  have hcp1 : ∀ ty dc sc, (Builtin.copy_ #[60, 60] ty #[.slice (some ⟨ab, i + 1, none⟩) (n - i) dc, .slice (some ⟨ab, i, none⟩) (n + 1 - i) sc]).run Try.prog w.drew = .ok (goInt ((lst G n).drop i).length) (w.drew.setCells ab (i + 1) ((lst G n).drop i)) := fun ty dc sc =>
    run_copy_cells w.drew _ _ ty 74 ab (i + 1) (n - i) dc ⟨ab, i, none⟩ (n + 1 - i) sc ((lst G n).drop i) Try.underlying60 size74 (by rw [hdl]; simp only [Nat.min_def]; split <;> omega)
      (fun j v hj => by rw [Addr.add_lit]; exact hcs (i + j) v (by rwa [List.getElem?_drop] at hj))
      (fun j hj => hsp _ (by omega)) (fun j hj => hfz _) (fun v hv => lst_mem hp v (List.mem_of_mem_drop hv))
  obtain ⟨W1, hW1⟩ : ∃ W1, W1 = w.drew.setCells ab (i + 1) ((lst G n).drop i) := ⟨_, rfl⟩
  have hsp1 : ∀ k, k < n + 1 → (W1.cell? ⟨ab, k, none⟩).isSome = true := fun k hk => by
    rw [hW1]
    exact isSome_setCells ab ((lst G n).drop i) (i + 1) w.drew (fun j hj => hsp (i + 1 + j) (by rw [hdl] at hj; omega)) k (hsp k hk)
  have hcp2 : ∀ (W : World), (∀ x, W.cell? x = W1.cell? x) → (∀ x, W.frozen? x = W1.frozen? x) → ∀ ty dc, (Builtin.copy_ #[60, 60] ty #[.slice (some ⟨ab, i, none⟩) (n + 1 - i) dc, .slice (some ⟨vb, 0, none⟩) 1 1]).run Try.prog W = .ok (goInt [Value.pointer (some ⟨pb, 0, none⟩)].length) (W.setCells ab i [.pointer (some ⟨pb, 0, none⟩)]) := fun W hWc hWf ty dc =>
    run_copy_cells W _ _ ty 74 ab i (n + 1 - i) dc ⟨vb, 0, none⟩ 1 1 [.pointer (some ⟨pb, 0, none⟩)] Try.underlying60 size74 (by simp only [Nat.min_def, List.length_singleton]; split <;> omega)
      (fun j v hj => by
        rw [Addr.add_lit, hWc, hW1, World.cell?_setCells_out ab _ _ _ _ (fun h _ => absurd h hvb)]
        cases j with
        | zero => simp at hj; subst hj; exact World.rowIs.cell hv (i := 0) (by omega)
        | succ j => simp at hj)
      (fun j hj => by rw [hWc]; simp at hj; exact hsp1 _ (by omega)) (fun j hj => by rw [hWf, hW1, World.frozen?_setCells]; exact hfz _) (by simp [Value.oneCell'])
  rw [← hW1] at hcp1
  have HF := hide0 (ins_mid (x := .pointer (some ⟨pb, 0, none⟩)) hrow hi hn hc)
  rw [← hW1] at HF
  clear hrow hv hdl hcs hsp hfz hsp1 hp hc hW1
  go_enter Try.func55, Try.ntmps55
  go_wp2_with (simp only [hov])
  go_region_law (refine step_copy_runI rfl _ _ 60 60 rfl _ _ (by simp [Act.eval, Act.put]) (by simp [Act.eval, Act.put]) (hcp1 _ _ _) ?_)
  go_wp2_with (at_builtin; refine wpList_copy_runI _ rfl _ _ 60 60 rfl _ _ rfl rfl (hcp2 _ (fun _ => rfl) (fun _ => rfl) _ _) ?_)
  go_ret
  exact HF.out

set_option maxHeartbeats 8000000 in
set_option maxRecDepth 100000 in
theorem insert_grow {w : World} {ab n i cap vb pb : Nat} {G : Nat → Value} (hrow : w.rowIs ab 74 cap G) (hi : i < n) (hnc : n ≤ cap) (hfull : cap < n + 1) (h5 : n ≤ 5) (hp : ∀ j, j < n → (G j).oneCell' = true) (hv : w.rowIs vb 74 1 (fun _ => .pointer (some ⟨pb, 0, none⟩))) :
    Calls Try.prog 55 #[.slice (some ⟨ab, 0, none⟩) n cap, .int .i64 (i : Int), .slice (some ⟨vb, 0, none⟩) 1 1] w (InsPost w ab n i G (.pointer (some ⟨pb, 0, none⟩))) := by
  obtain ⟨i0, hi0, hz0, hzs, hzb⟩ := info_parts info74
  have hbw := World.rowIs.lt hrow
  have hvw := World.rowIs.lt hv
  have hcs : ∀ j v, (lst G n)[j]? = some v → w.cell? ⟨ab, j, none⟩ = some v := fun j v hj => by
    by_cases h : j < n
    · rw [lst_get _ _ _ h] at hj
      rw [← hj]
      exact World.rowIs.cell hrow (by omega)
    · rw [List.getElem?_eq_none (by rw [lst_len]; omega)] at hj
      cases hj
  have hold : (Builtin.firstCells i0.size i (.slice (some ⟨ab, 0, none⟩) i cap)).run Try.prog w.drew = .ok ((lst G n).take i).toArray w.drew := by
    rw [hzs]
    exact run_firstCells_some w.drew 1 i ⟨ab, 0, none⟩ i cap ((lst G n).take i) (by rw [List.length_take, lst_len]; omega) (fun j v hj => by
      rw [Addr.add_lit]
      rw [List.getElem?_take] at hj
      split at hj
      · simp only [Nat.zero_add]; exact hcs j v hj
      · cases hj)
  have hik : i + (n + 1 - i) = n + 1 := by omega
  have hkk : (n : Int) + 1 - (i : Int) = ((n + 1 - i : Nat) : Int) := by omega
  obtain ⟨G0, hG⟩ : ∃ G0, G0 = grownCap w (n + 1) cap 74 := ⟨_, rfl⟩
  obtain ⟨ROW, hROW⟩ : ∃ ROW : Array Value, ROW = ((lst G n).take i).toArray ++ Builtin.zeroCells (Value.pointer none).cells (n + 1 - i) ++ Builtin.zeroCells (Value.pointer none).cells (G0 - (n + 1)) := ⟨_, rfl⟩
  have hrz : ∀ ty, (Builtin.append_ #[60, 3] ty #[.slice (some ⟨ab, 0, none⟩) i cap, .int .i64 ((n : Int) + 1 - (i : Int))]).run Try.prog w = .ok (.slice (some ⟨w.heap.size, 0, none⟩) (n + 1) G0) (w.drew.alloc (.cells ROW 74)) := fun ty => by
    have h := Lib.run_append_grow_zeros w 60 3 ty 74 i0 _ .i64 .i64 Try.underlying60 Try.underlying3 hi0 hz0 (some ⟨ab, 0, none⟩) i cap ((lst G n).take i) hold (n + 1 - i) (by omega) (by omega) (by omega) (by omega) (by rw [hzb]; omega) (by rw [hzb, hik]; exact growslice_fits hfull (by omega))
    rw [hik] at h
    rw [hkk, hROW, hG]
    exact h
  have hGn : n + 1 ≤ G0 := by rw [hG]; exact grownCap_ge w _ _ _
  have hGm : G0 ≤ maxLen := by rw [hG]; exact grownCap_le_maxLen w (n + 1) cap 74 (by unfold maxLen; omega)
  have hG63 : G0 ≤ 9223372036854775807 := by unfold maxLen at hGm; omega
  have hRs : ROW.size = G0 := by
    rw [hROW]
    simp [Builtin.zeroCells, Value.cells, lst_len]
    omega
  have hRh : ∀ j, j < i → ROW[j]? = some (G j) := fun j hj => by
    rw [hROW, Array.append_assoc, Array.getElem?_append_left (by simp [lst_len]; omega), List.getElem?_toArray, List.getElem?_take, if_pos hj]
    exact lst_get _ _ _ (by omega)
  have HF := hide0 (ins_grow (w := w) (ab := ab) (x := .pointer (some ⟨pb, 0, none⟩)) hi hRs hGn hGm hRh)
  obtain ⟨W1, hW1⟩ : ∃ W1, W1 = w.drew.alloc (.cells ROW 74) := ⟨_, rfl⟩
  rw [← hW1] at hrz
  have hN : ∀ j, j < n + 1 → (W1.cell? ⟨w.heap.size, j, none⟩).isSome = true := fun j hj => by
    rw [hW1, World.cell?_alloc_at (w := w.drew) ROW _ w.heap.size j rfl, Array.getElem?_eq_getElem (by omega)]; rfl
  have hNf : ∀ j, W1.frozen? ⟨w.heap.size, j, none⟩ = false := fun j => by rw [hW1]; exact World.frozen?_alloc_at (w := w.drew) ROW _ w.heap.size j rfl
  have hOb : ∀ j v, w.cell? ⟨ab, j, none⟩ = some v → W1.cell? ⟨ab, j, none⟩ = some v := fun j v h => by rw [hW1, World.cell?_alloc_past (w := w.drew) _ ab j hbw]; exact h
  have hOv : W1.cell? ⟨vb, 0, none⟩ = some (.pointer (some ⟨pb, 0, none⟩)) := by rw [hW1, World.cell?_alloc_past (w := w.drew) _ vb 0 hvw]; exact World.rowIs.cell hv (i := 0) (by omega)
  have hcpA : ∀ (W : World), (∀ x, W.cell? x = W1.cell? x) → (∀ x, W.frozen? x = W1.frozen? x) → ∀ ty dc, (Builtin.copy_ #[60, 60] ty #[.slice (some ⟨w.heap.size, i, none⟩) (n + 1 - i) dc, .slice (some ⟨vb, 0, none⟩) 1 1]).run Try.prog W = .ok (goInt [Value.pointer (some ⟨pb, 0, none⟩)].length) (W.setCells w.heap.size i [.pointer (some ⟨pb, 0, none⟩)]) := fun W hWc hWf ty dc =>
    run_copy_cells W _ _ ty 74 w.heap.size i (n + 1 - i) dc ⟨vb, 0, none⟩ 1 1 [.pointer (some ⟨pb, 0, none⟩)] Try.underlying60 size74 (by simp only [Nat.min_def, List.length_singleton]; split <;> omega)
      (fun j v hj => by
        rw [Addr.add_lit, hWc]
        cases j with
        | zero => simp at hj; subst hj; exact hOv
        | succ j => simp at hj)
      (fun j hj => by rw [hWc]; simp at hj; exact hN _ (by omega)) (fun j hj => by rw [hWf]; exact hNf _) (by simp [Value.oneCell'])
  have hbN : ab ≠ w.heap.size := by omega
  have hdl : ((lst G n).drop i).length = n - i := by rw [List.length_drop, lst_len]
  have hcpB : ∀ (W : World), (∀ x, W.cell? x = (W1.setCells w.heap.size i [.pointer (some ⟨pb, 0, none⟩)]).cell? x) → (∀ x, W.frozen? x = (W1.setCells w.heap.size i [.pointer (some ⟨pb, 0, none⟩)]).frozen? x) → ∀ ty dc sc, (Builtin.copy_ #[60, 60] ty #[.slice (some ⟨w.heap.size, i + 1, none⟩) (n + 1 - (i + 1)) dc, .slice (some ⟨ab, i, none⟩) (n - i) sc]).run Try.prog W = .ok (goInt ((lst G n).drop i).length) (W.setCells w.heap.size (i + 1) ((lst G n).drop i)) := fun W hWc hWf ty dc sc =>
    run_copy_cells W _ _ ty 74 w.heap.size (i + 1) (n + 1 - (i + 1)) dc ⟨ab, i, none⟩ (n - i) sc ((lst G n).drop i) Try.underlying60 size74 (by rw [hdl]; simp only [Nat.min_def]; split <;> omega)
      (fun j v hj => by
        rw [Addr.add_lit, hWc, World.cell?_setCells_out _ _ _ _ _ (fun h _ => absurd h hbN)]
        exact hOb _ v (hcs (i + j) v (by rwa [List.getElem?_drop] at hj)))
      (fun j hj => by rw [hWc]; exact isSome_setCells _ _ _ _ (fun t ht => hN _ (by simp at ht; omega)) _ (hN _ (by omega)))
      (fun j hj => by rw [hWf, World.frozen?_setCells]; exact hNf _) (fun v hv => lst_mem hp v (List.mem_of_mem_drop hv))
  subst hW1
  have hE1 : ∀ x, ((w.alloc (.cells ROW 74)).drew).cell? x = (w.drew.alloc (.cells ROW 74)).cell? x := fun x => rfl
  have hE2 : ∀ x, ((w.alloc (.cells ROW 74)).drew).frozen? x = (w.drew.alloc (.cells ROW 74)).frozen? x := fun x => rfl
  have hF1 : ∀ x, (((w.alloc (.cells ROW 74)).drew.setCells w.heap.size i [.pointer (some ⟨pb, 0, none⟩)]).drew).cell? x = ((w.drew.alloc (.cells ROW 74)).setCells w.heap.size i [.pointer (some ⟨pb, 0, none⟩)]).cell? x := fun x => rfl
  have hF2 : ∀ x, (((w.alloc (.cells ROW 74)).drew.setCells w.heap.size i [.pointer (some ⟨pb, 0, none⟩)]).drew).frozen? x = ((w.drew.alloc (.cells ROW 74)).setCells w.heap.size i [.pointer (some ⟨pb, 0, none⟩)]).frozen? x := fun x => rfl
  have hw1 : IntKind.i64.wrap ((i : Int) + 1) = (i : Int) + 1 := by rw [IntKind.wrap_i64]; omega
  have hb1 : (0 : Int) ≤ (i : Int) + 1 := by omega
  have hin : i ≤ n := by omega
  have htn : ((i : Int) + 1).toNat = i + 1 := by omega
  have hb3 : (i : Int) ≤ (n : Int) := by omega
  have hz2 : ¬ ((i : Int) = (n : Int)) := by omega
  have hz3 : (cap : Int) < (n : Int) + 1 := by omega
  have hGi : ¬ (G0 = i) := by omega
  have hGim : ¬ (G0 = i + 1) := by omega
  have hci : ¬ (cap = i) := by omega
  clear hkk hik hold hROW hG hRs hRh hrow hv hcs hN hNf hOb hOv hp hdl hGm hi0 hz0 hzs hzb
  go_enter Try.func55, Try.ntmps55
  go_wp2_with (first
    | (at_builtin; refine Lib.wpList_append_run _ rfl _ _ _ _ rfl _ _ rfl rfl _ _ (hrz _) ?_)
    | (at_builtin; refine wpList_copy_runI _ rfl _ _ 60 60 rfl _ _ rfl rfl (hcpA _ hE1 hE2 _ _) ?_)
    | (at_builtin; refine wpList_copy_runI _ rfl _ _ 60 60 rfl _ _ rfl rfl (hcpB _ (fun _ => rfl) (fun _ => rfl) _ _ _) ?_))
  go_region_law (refine step_copy_runI rfl _ _ 60 60 rfl (.slice (some ⟨w.heap.size, i + 1, none⟩) (n + 1 - (i + 1)) (G0 - (i + 1))) (.slice (some ⟨ab, i, none⟩) (n - i) (cap - i)) (by simp [Act.eval, Act.put]) (by simp [Act.eval, Act.put]) (hcpB _ hF1 hF2 3 (G0 - (i + 1)) (cap - i)) ?_)
  go_wp2
  go_ret
  exact HF.out

theorem insert_any {w : World} {ab n i cap vb pb : Nat} {G : Nat → Value} (hrow : w.rowIs ab 74 cap G) (hi : i ≤ n) (hnc : n ≤ cap) (hc : cap ≤ maxLen) (h5 : n ≤ 5) (hp : ∀ j, j < n → (G j).oneCell' = true) (hv : w.rowIs vb 74 1 (fun _ => .pointer (some ⟨pb, 0, none⟩))) (hvb : vb ≠ ab) :
    Calls Try.prog 55 #[.slice (some ⟨ab, 0, none⟩) n cap, .int .i64 (i : Int), .slice (some ⟨vb, 0, none⟩) 1 1] w (InsPost w ab n i G (.pointer (some ⟨pb, 0, none⟩))) := by
  rcases Nat.lt_or_ge i n with h | h
  · rcases Nat.lt_or_ge cap (n + 1) with h' | h'
    · exact insert_grow hrow h hnc h' h5 hp hv
    · exact insert_mid hrow h h' hc hp hv hvb
  · have : i = n := by omega
    subst this
    exact insert_end hrow hnc hc h5 hv
end Go.Proofs.Qxb6002353a
