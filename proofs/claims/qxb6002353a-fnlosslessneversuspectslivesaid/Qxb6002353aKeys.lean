import Derived.Test.Qxb6002353aDigest
import Derived.Test.Qxb6002353aIter
namespace Go.Proofs.Qxb6002353a
open Go.RowKit Go.Maps Go.Sort

/-- what comes back from 'slices.Sorted(maps.Keys(m))': names that are keys -/
def KeysPost (Q : UInt8 → Prop) (B : Nat) (w : World) (e : Ending) (w' : World) : Prop :=
  ∃ (v : Value) (ks : List UInt8), e = .returned v ∧ w'.ownsRow 0 9 1 v ks.length (ks.map fun u => .string (idb u)) ∧ (∀ u ∈ ks, Q u) ∧ ks.length ≤ 5 ∧ (∀ g, v.ownBlock = some g → B ≤ g) ∧ Below B w w'

theorem keys_list {w : World} {b : Nat} {D : DataW Value} {Q : UInt8 → Prop} (hown : w.ownsMap Try.prog 9 RV b 5 D) (hk : ∀ l, Maps.has D (.string l) = true → ∃ u, l = [u] ∧ Q u) {ss : List (List UInt8)} (hp : ss.Perm (strKeys D)) :
    ∃ ks : List UInt8, (ss.mergeSort fun x y => decide (x ≤ y)).map encStr = ks.map (fun u => Value.string (idb u)) ∧ (∀ u ∈ ks, Q u) ∧ ks.length = ss.length ∧ ss.length ≤ 5 := by
  obtain ⟨es, hD, hkeys⟩ := hown.keysOf
  have hmem : ∀ x ∈ ss, ∃ u, x = [u] ∧ Q u := by
    intro x hx
    have hx' := hp.mem_iff.1 hx
    rw [hD] at hx'
    obtain ⟨p, hpm, rfl⟩ := List.mem_map.1 hx'
    obtain ⟨l, hl⟩ : ∃ l, p.1 = .string l := by
      obtain ⟨v, hv⟩ := hkeys p hpm
      obtain ⟨x, _, e2, _⟩ := keyOf_str Try.underlying9 hv
      exact ⟨x, e2⟩
    have hh : Maps.has D (.string l) = true := by
      rw [hD, has_eq]
      exact List.any_eq_true.2 ⟨p, hpm, by rw [hl]; simp [Lit.sameKey]⟩
    obtain ⟨u, e, hu⟩ := hk l hh
    exact ⟨u, by rw [hl]; exact e, hu⟩
  have hmem' : ∀ x ∈ ss.mergeSort (fun x y => decide (x ≤ y)), ∃ u, x = [u] ∧ Q u := fun x hx => hmem x ((List.mergeSort_perm ss _).mem_iff.1 hx)
  have hlen : (ss.mergeSort fun x y => decide (x ≤ y)).length = ss.length := List.length_mergeSort _
  refine ⟨(ss.mergeSort fun x y => decide (x ≤ y)).map (fun l => l.headD 0), ?_, ?_, by simp, ?_⟩
  · rw [List.map_map]
    refine List.map_congr_left fun x hx => ?_
    obtain ⟨u, rfl, _⟩ := hmem' x hx
    rfl
  · intro u hu
    obtain ⟨x, hx, rfl⟩ := List.mem_map.1 hu
    obtain ⟨u, rfl, hq⟩ := hmem' x hx
    exact hq
  · rw [hp.length_eq, hD]
    show (es.map _).length ≤ 5
    have := hown.size_le
    rw [hD] at this
    simpa [Maps.size] using this

theorem mk50 (mb : Option Nat) (w : World) : Calls Try.prog 50 #[.map mb] w fun e w' => e = .returned (.func (.func 71) #[] #[.pointer (some ⟨w.heap.size, 0, none⟩)]) ∧ w' = w.alloc (.cells #[.map mb] 61) := callsIn_wide.1 (Try.maps_Keys_50 mb w)
theorem mk44 (mb : Option Nat) (w : World) : Calls Try.prog 44 #[.map mb] w fun e w' => e = .returned (.func (.func 69) #[] #[.pointer (some ⟨w.heap.size, 0, none⟩)]) ∧ w' = w.alloc (.cells #[.map mb] 62) := callsIn_wide.1 (Try.maps_Keys_44 mb w)

theorem sorted50 {w : World} {b : Nat} {D : DataW Value} {Q : UInt8 → Prop} (hown : w.ownsMap Try.prog 9 RV b 5 D) (hk : ∀ l, Maps.has D (.string l) = true → ∃ u, l = [u] ∧ Q u) :
    Calls Try.prog 43 #[.func (.func 71) #[] #[.pointer (some ⟨w.heap.size, 0, none⟩)]] (w.alloc (.cells #[.map (some b)] 61)) (KeysPost Q (w.heap.size + 1) (w.alloc (.cells #[.map (some b)] 61))) := by
  have hs := hown.size_le
  refine (callsIn_wide.1 (Try.slices_Sorted_keys_43_50 b 5 D RV w hown (by unfold maxLen; omega) (by omega))).mono ?_
  rintro e w' ⟨v, ss, rfl, hp, hrow, _, hb⟩
  have e1 : (w.alloc (.cells #[.map (some b)] 61)).heap.size = w.heap.size + 1 := by simp
  rw [e1] at hb hrow
  obtain ⟨ks, h1, h2, h3, h4⟩ := keys_list hown hk hp
  refine ⟨v, ks, rfl, ?_, h2, by omega, fun g hg => (hrow.lt g hg).1, hb⟩
  rw [h1, ← h3] at hrow
  refine ⟨hrow.1, ?_⟩
  rcases hrow.2 with e | ⟨g, cp, cur, a1, a2, a3⟩
  · exact .inl e
  · exact .inr ⟨g, cp, cur, a1, Nat.zero_le _, a3⟩

theorem sorted44 {w : World} {b : Nat} {D : DataW Value} {Q : UInt8 → Prop} (hown : w.ownsMap Try.prog 9 RV b 5 D) (hk : ∀ l, Maps.has D (.string l) = true → ∃ u, l = [u] ∧ Q u) :
    Calls Try.prog 43 #[.func (.func 69) #[] #[.pointer (some ⟨w.heap.size, 0, none⟩)]] (w.alloc (.cells #[.map (some b)] 62)) (KeysPost Q (w.heap.size + 1) (w.alloc (.cells #[.map (some b)] 62))) := by
  have hs := hown.size_le
  refine (callsIn_wide.1 (Try.slices_Sorted_keys_43_44 b 5 D RV w hown (by unfold maxLen; omega) (by omega))).mono ?_
  rintro e w' ⟨v, ss, rfl, hp, hrow, _, hb⟩
  have e1 : (w.alloc (.cells #[.map (some b)] 62)).heap.size = w.heap.size + 1 := by simp
  rw [e1] at hb hrow
  obtain ⟨ks, h1, h2, h3, h4⟩ := keys_list hown hk hp
  refine ⟨v, ks, rfl, ?_, h2, by omega, fun g hg => (hrow.lt g hg).1, hb⟩
  rw [h1, ← h3] at hrow
  refine ⟨hrow.1, ?_⟩
  rcases hrow.2 with e | ⟨g, cp, cur, a1, a2, a3⟩
  · exact .inl e
  · exact .inr ⟨g, cp, cur, a1, Nat.zero_le _, a3⟩
end Go.Proofs.Qxb6002353a
