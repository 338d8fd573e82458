import Derived.Test.Qxb6002353aAdd
import Derived.Sort.OwnSorted
import Derived.BigQuiet
namespace Go.Proofs.Qxb6002353a
open Go.RowKit Go.Maps

def strs (xs : List UInt8) : List Value := xs.map fun u => .string (idb u)

def SortPost (B : Nat) (v : Value) (xs : List UInt8) (w : World) (e : Ending) (w' : World) : Prop :=
  e = .returned (.tuple #[]) ∧ ∃ ys : List UInt8, ys.length = xs.length ∧ (∀ y ∈ ys, y ∈ xs) ∧ w'.ownsRow B 9 1 v xs.length (strs ys) ∧ w.grownBy w' v.ownBlock

open Go.Sort in
theorem sort_any {w : World} {B : Nat} {v : Value} {xs : List UInt8} (hown : w.ownsRow B 9 1 v xs.length (strs xs)) (h5 : xs.length ≤ 100) : Calls Try.prog 27 #[v] w (SortPost B v xs w) := by
  rcases hown.2 with ⟨rfl, h0⟩ | ⟨g, cap, cur, rfl, hbase, hb, h1, h2, h3, h4⟩
  · refine (AnyM.slices_Sort_string_none Try.sort27 none 0 w).mono ?_
    rintro e w' ⟨rfl, rfl⟩
    refine ⟨rfl, xs, rfl, fun _ h => h, hown, ?_⟩
    exact ⟨rfl, rfl, rfl, Nat.le_refl _, fun _ _ _ => rfl⟩
  · have hm : (xs.map fun u => [u]).map encStr = strs xs := by
      rw [List.map_map]; rfl
    have hl : (xs.map fun u => [u]).length = xs.length := by simp
    have hH : Holds encStr w g 0 (xs.map fun u => [u]).toArray := holds_of_block hb (by rw [hl, hm]; simpa using h4)
    have hs := AnyM.slices_Sort_string Try.sort27 g 0 cap (xs.map fun u => [u]) w hH (Array.getElem?_eq_some_iff.1 hb).1 (by rw [hl]; omega)
    rw [hl] at hs
    refine hs.mono ?_
    rintro e w' ⟨rfl, n, os, rfl⟩
    have hmem : ∀ x ∈ ((xs.map fun u => [u]).mergeSort fun x y => decide (x ≤ y)), ∃ u ∈ xs, x = [u] := fun x hx => by
      have := (List.mergeSort_perm (xs.map fun u => [u]) (fun x y => decide (x ≤ y))).mem_iff.1 hx
      obtain ⟨u, hu, rfl⟩ := List.mem_map.1 this
      exact ⟨u, hu, rfl⟩
    have hlen : ((xs.map fun u => [u]).mergeSort fun x y => decide (x ≤ y)).length = (xs.map fun u => [u]).length := List.length_mergeSort _
    refine ⟨rfl, ((xs.map fun u => [u]).mergeSort fun x y => decide (x ≤ y)).map (fun l => l.headD 0), by simp, ?_, ?_, grownBy_sorted _⟩
    · intro y hy
      obtain ⟨x, hx, rfl⟩ := List.mem_map.1 hy
      obtain ⟨u, hu, rfl⟩ := hmem x hx
      exact hu
    · have hr := ownsRow_sorted (n := n) (os := os) (base := B) (e := 9) (cap := cap) hlen hbase hb (by rw [hl]; exact h1) h2 h3
      rw [hl] at hr
      have e1 : ((xs.map fun u => [u]).mergeSort fun x y => decide (x ≤ y)).map encStr = strs (((xs.map fun u => [u]).mergeSort fun x y => decide (x ≤ y)).map (fun l => l.headD 0)) := by
        unfold strs
        rw [List.map_map]
        refine List.map_congr_left fun x hx => ?_
        obtain ⟨u, hu, rfl⟩ := hmem x hx
        rfl
      rw [← e1]
      exact hr

/-- whom a node suspects -/
def SusPost (w : World) (Dd : UInt8 → Prop) (e : Ending) (w' : World) : Prop :=
  ∃ v xs, e = .returned v ∧ w'.ownsRow w.heap.size 9 1 v xs.length (strs xs) ∧ xs.length ≤ 5 ∧ (∀ x ∈ xs, Dd x) ∧ Below w.heap.size w w'

theorem key_inv (key : Value) (kl : Lit) (h : keyOf Try.prog 9 key = some kl) : ∃ x, key = .string x := by
  obtain ⟨x, e, _⟩ := keyOf_str Try.underlying9 h
  exact ⟨_, e⟩

/-- what has been gathered -/
def SusX (w wr : World) (qm : Nat) (Dd : UInt8 → Prop) (D : DataW Value) (v : Value) : Prop :=
  ∃ left cnt xs, wr.ranges Try.prog 9 RV qm w.heap.size 5 D left cnt ∧ (∀ kl, left kl = true → Maps.has D kl = true) ∧ wr.ownsRow (w.heap.size + 1) 9 1 v xs.length (strs xs) ∧ xs.length + cnt ≤ 5 ∧ (∀ x ∈ xs, Dd x) ∧ Below w.heap.size w wr

set_option maxHeartbeats 8000000 in
set_option maxRecDepth 100000 in
theorem suspected_any {S : Nat → Prop} {w : World} {F : Fx} {Dd : UInt8 → Prop} {c : Nat} {r : Int} {ab cap : Nat} {L : List Nat} {φ : Nat → UInt8 → Value → Value → Value → Prop} (h : NodeOK S w F Dd c r ab cap L φ) :
    Calls Try.prog 12 #[.pointer (some ⟨F.nb, 0, none⟩)] w (SusPost w Dd) := by
  obtain ⟨N, G, pid, P, K, h⟩ := h
  have c8 : w.cell? ⟨F.nb, 8, none⟩ = some (.map (some F.qm)) := by rw [← h.n8]; exact World.rowIs.cell h.nrow (by omega)
  have hnl := World.rowIs.lt h.nrow
  obtain ⟨D, hown, hk, -⟩ := h.qmap
  have hql := hown.lt
  have hsz := hown.size_le
  have HK := hide0 hk
  have HO := hide0 hown
  obtain ⟨i9, hi9, hz0, hz1, hz2⟩ := info_parts info9
  clear h hk hown
  go_enter Try.func12, Try.ntmps12
  go_wp2_with (first | (at_range; refine wpList_range_own _ rfl _ 61 rfl 9 66 law9 Try.underlying61 RV F.qm 5 D rfl HO.out ?_; intro w0 hrg0 hg0 hs0) | go_in)
  go_frame
  go_loopw [3] (fun v wr => SusX w wr F.qm Dd D v) (fun _ wr => wr.rangeLeft F.qm w.heap.size)
  case atStart =>
    refine ⟨Maps.has D, Maps.size D, [], hrg0, fun _ h => h, World.ownsRow_nil _ _ _ _, by simpa using hsz, by simp, ?_⟩
    exact ⟨hg0.os, hg0.tape, hg0.output, hg0.size, fun b hb => hg0.block b hb (by simp)⟩
  case round =>
    obtain ⟨left, cnt, xs, hrg, hlf, hrow, hlen, hdd, hbel⟩ := hrel
    have HROW := hide0 hrow
    have HDD := hide0 hdd
    have HBEL := hide0 hbel
    have HRG := hide0 hrg
    have HLF := hide0 hlf
    obtain ⟨pv, cv, hev, -, -⟩ := own_at (own_base hrow)
    subst hev
    clear hrow hdd hbel hrg hlf
    go_wp2_with (first
      | (at_next; refine wpList_next_ranges _ rfl _ rfl 9 law9 RV Value.string id key_inv (fun v y hv => ⟨v, rfl⟩) F.qm w.heap.size 5 D left cnt rfl HRG.out ?_ ?_)
      | go_in)
    case refine_1 =>
      intro hc0 hl0
      clear hl0
      go_wp2_with (go_at_call 27; refine (sort_any HROW.out (by omega)).mono ?_; rintro e w2 ⟨rfl, ys, hyl, hym, hown2, hg2⟩; have HYL := hide0 hyl; have HYM := hide0 hym; have HO2 := hide0 hown2; have HG2 := hide0 hg2; clear hyl hym hown2 hg2)
      go_ret
      have ho := HO2.out
      rw [← HYL.out] at ho
      refine ⟨_, ys, rfl, ?_, by have := HYL.out; omega, fun y hy => HDD.out y (HYM.out y hy), ?_⟩
      · have hr := HYL.out
        show w2.ownsRow w.heap.size 9 1 (.slice pv xs.length cv) ys.length (strs ys)
        rw [← HYL.out]
        refine ⟨ho.1, ?_⟩
        rcases ho.2 with e | ⟨g, cp, cur, e1, e2, e3⟩
        · exact .inl e
        · exact .inr ⟨g, cp, cur, e1, by omega, e3⟩
      · have hb := HBEL.out
        have hg := HG2.out
        refine ⟨hg.os.trans hb.os, hg.tape.trans hb.tape, hg.output.trans hb.output, Nat.le_trans hb.size hg.size, fun k hk => (hg.block k (Nat.lt_of_lt_of_le hk hb.size) (fun e => ?_)).trans (hb.block k hk)⟩
        have := (HROW.out.lt k e.symm).1
        omega
    case refine_2 =>
      intro x cc kl y1 y2 w1 cnt1 hkey hlk hv hat hrg1 hlt hg1 hs1 hen
      obtain ⟨l, e1, e2, -⟩ := keyOf_str Try.underlying9 hkey
      subst e2
      obtain ⟨u, t, rfl, hdu, -, -, hat2⟩ := HK.out l (HLF.out _ hlk)
      have ex : x = idb u := by
        simp only [Value.string.injEq] at e1
        exact e1
      subst ex
      have ecc : cc = .agg #[.int .u64 t, .bool true] := by
        simp only [RV, Option.some.injEq, Prod.mk.injEq] at hv
        have h1 := hat .nil
        rw [hat2 .nil, ← hv.1] at h1
        simp only [DataW.held.injEq] at h1
        exact h1.symm
      subst ecc
      have HS1 := hide0 hs1
      have HLT := hide0 hlt
      have HRG1 := hide0 hrg1
      have HG1 := hide0 hg1
      have HDU := hide0 hdu
      have hne : some w.heap.size ≠ (Value.slice pv xs.length cv).ownBlock := row_ne_low HROW.out (by omega)
      have HR1 := hide0 (HROW.out.kept hg1 (by
        cases hvb : (Value.slice pv xs.length cv).ownBlock with
        | none => exact .inl rfl
        | some g => exact .inr (by rw [← hvb]; exact hne.symm)))
      have hwl : w.heap.size + 1 ≤ w1.heap.size := by have h1 := HRG1.out.lt; omega
      clear hat hat2 hv e1 hkey hrg1 hg1 hdu hne hs1 hlt hs0 hg0 hrg0
      go_wp2_with (first
        | (at_builtin; refine wpList_append_own_at _ rfl _ _ 33 rfl (w.heap.size + 1) 9 i9 (.string ByteArray.empty) 1 16 Try.underlying33 hi9 hz0 hz1 hz2 rfl (by decide) _ _ _ rfl ((HR1.out.alloc _).alloc _) ⟨w1.heap.size + 1, 0, none⟩ 1 1 [.string (idb u)] rfl rfl (by intro j v hj; cases j <;> simp at hj; subst hj; simp [Addr.add]) (by simp [Value.oneCell']) (by unfold maxLen; omega) (by omega) (by simp; omega) ?_; intro v' w3 hown hgrow hnil hloc; have HO3 := hide0 hown; have HG3 := hide0 hgrow; clear hown hgrow hnil hloc)
        | go_in)
      have hlow : ∀ k, k < w.heap.size + 1 → some k ≠ (Value.slice pv xs.length cv).ownBlock := fun k hk => row_ne_low HROW.out hk
      have hrg3 := ((HRG1.out.alloc (.cells #[.int .u64 t, .bool true] 66)).alloc (.cells #[.string (idb u)] 9)).kept HG3.out (hlow _ (by omega)) (hlow _ (by omega))
      go_roundw
      case rel =>
        refine ⟨_, cnt1, xs ++ [u], hrg3, fun kl hkl => HLF.out kl ?_, ?_, ?_, ?_, ?_⟩
        · have := (Bool.and_eq_true_iff.1 hkl).1
          exact this
        · have := HO3.out
          unfold strs at this ⊢
          simpa using this
        · have := HLT.out
          simp only [List.length_append, List.length_singleton]
          omega
        · intro y hy
          rcases List.mem_append.1 hy with e | e
          · exact HDD.out y e
          · simp only [List.mem_singleton] at e
            rw [e]; exact HDU.out
        · have hb := HBEL.out
          have h1 := HG1.out
          have h3 := HG3.out
          refine ⟨h3.os.trans (h1.os.trans hb.os), h3.tape.trans (h1.tape.trans hb.tape), h3.output.trans (h1.output.trans hb.output), ?_, fun k hk => ?_⟩
          · have e1 := hb.size; have e2 := h1.size; have e3 := h3.size
            simp at e3
            omega
          · have e1 := hb.size
            have e2 := h1.size
            refine (h3.block k (by simp; omega) (hlow k (by omega))).trans ?_
            refine (Below.heap_alloc _ _ _ (by simp; omega)).trans ((Below.heap_alloc _ _ _ (by omega)).trans ?_)
            refine (h1.block k (by omega) (by simp; omega)).trans (hb.block k hk)
      case measure =>
        rw [hrg3.left_eq, HRG.out.left_eq]
        exact HLT.out
end Go.Proofs.Qxb6002353a
