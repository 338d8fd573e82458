/-
  THE MEMORY OF ONE NODE OF THE SUSPICION SERVICE, AS THE PROOF SEES IT. No walk in this text.
-/
import Derived.Test.Qxb6002353aWait
import Derived.Maps.OwnSet
import Derived.StringKeys
import Derived.Maps.OwnOps
import Derived.Maps.RangeWalk
import Derived.Maps.AppendAt
import Derived.Deep.OwnRows
namespace Go.Proofs.Qxb6002353a
open Go.RowKit Go.Maps

/-! ### names -/
/-- a node's id: one byte -/
def idb (u : UInt8) : ByteArray := ⟨#[u]⟩
theorem idb_list (u : UInt8) : (idb u).data.toList = [u] := rfl
/-- the five names that a law's network knows -/
def IsNm (u : UInt8) : Prop := 97 ≤ u.toNat ∧ u.toNat < 102
theorem law9 : Keyed Try.prog 9 := string_keyed Try.underlying9
theorem key_idb (u : UInt8) : keyOf Try.prog 9 (.string (idb u)) = some (.string [u]) := WideMaps.keyOf_string_mk Try.underlying9 (by show 1 ≤ maxLen; unfold maxLen; omega)

/-! ### what a call may touch -/
structure Touch (S : Nat → Prop) (w w' : World) : Prop where
  os : w'.os = w.os
  tape : w'.tape = w.tape
  output : w'.output = w.output
  size : w.heap.size ≤ w'.heap.size
  block : ∀ b, b < w.heap.size → ¬ S b → w'.heap[b]? = w.heap[b]?

/-- the blocks of S, and those that have been made since -/
def grow (S : Nat → Prop) (w w' : World) : Nat → Prop := fun b => S b ∨ (w.heap.size ≤ b ∧ b < w'.heap.size)

theorem Touch.refl (S : Nat → Prop) (w : World) : Touch S w w := ⟨rfl, rfl, rfl, Nat.le_refl _, fun _ _ _ => rfl⟩
theorem Touch.trans {S : Nat → Prop} {a b c : World} (h : Touch S a b) (k : Touch (grow S a b) b c) : Touch S a c :=
  ⟨k.os.trans h.os, k.tape.trans h.tape, k.output.trans h.output, Nat.le_trans h.size k.size,
   fun i hi hn => (k.block i (Nat.lt_of_lt_of_le hi h.size) (fun e => by rcases e with e | e; exact hn e; omega)).trans (h.block i hi hn)⟩
theorem Touch.mono {S S' : Nat → Prop} {a b : World} (h : Touch S a b) (hS : ∀ i, S i → S' i) : Touch S' a b :=
  ⟨h.os, h.tape, h.output, h.size, fun i hi hn => h.block i hi (fun e => hn (hS i e))⟩
theorem Touch.trans' {S : Nat → Prop} {a b c : World} (h : Touch S a b) (k : Touch S b c) : Touch S a c := h.trans (k.mono fun _ e => .inl e)
theorem Touch.drewN {S : Nat → Prop} {a b : World} (h : Touch S a b) (q : Nat) : Touch S a (b.drewN q) := ⟨h.os, h.tape, h.output, h.size, h.block⟩
theorem Touch.alloc {S : Nat → Prop} {a b : World} (h : Touch S a b) (o : Obj) : Touch S a (b.alloc o) :=
  h.trans' ⟨rfl, rfl, rfl, by simp, fun i hi _ => Below.heap_alloc _ _ _ hi⟩
theorem Touch.setCell {S : Nat → Prop} {a b : World} (h : Touch S a b) {p : Addr} (hp : grow S a b p.block) (u : Value) : Touch S a (b.setCell p u) :=
  h.trans ⟨rfl, rfl, rfl, by simp [World.setCell], fun i _ hn => Below.heap_setCell _ _ _ _ (fun e => hn (by rw [e]; exact hp))⟩
theorem Touch.grown {S : Nat → Prop} {a b c : World} {row : Option Nat} (h : Touch S a b) (hg : b.grownBy c row) (hr : ∀ k, row = some k → grow S a b k) : Touch S a c :=
  h.trans ⟨hg.os, hg.tape, hg.output, hg.size, fun i hi hn => hg.block i hi (fun e => hn (hr i e.symm))⟩
theorem Touch.below {S : Nat → Prop} {a b c : World} (h : Touch S a b) (hb : Below b.heap.size b c) : Touch S a c :=
  h.trans ⟨hb.os, hb.tape, hb.output, hb.size, fun i hi _ => hb.block i hi⟩

theorem grow_self {S : Nat → Prop} {w w' : World} {b : Nat} (h : S b) : grow S w w' b := .inl h
theorem grow_trans {S : Nat → Prop} {a b c : World} (h1 : a.heap.size ≤ b.heap.size) (h2 : b.heap.size ≤ c.heap.size) {i : Nat} (h : grow (grow S a b) b c i) : grow S a c i := by
  rcases h with (h | h) | h
  · exact .inl h
  · exact .inr ⟨h.1, by omega⟩
  · exact .inr ⟨by omega, h.2⟩
theorem grow_mono {S : Nat → Prop} {a b c : World} (h2 : b.heap.size ≤ c.heap.size) {i : Nat} (h : grow S a b i) : grow S a c i := by
  rcases h with h | h
  · exact .inl h
  · exact .inr ⟨h.1, by omega⟩

theorem grownBy_setCell (w : World) (a : Addr) (v : Value) : w.grownBy (w.setCell a v) (some a.block) :=
  ⟨rfl, rfl, rfl, by simp [World.setCell], fun k _ hk => Below.heap_setCell _ _ _ _ (by simpa using hk)⟩
theorem grownBy_drewN (w : World) (q : Nat) (row : Option Nat) : w.grownBy (w.drewN q) row := ⟨rfl, rfl, rfl, Nat.le_refl _, fun _ _ _ => rfl⟩
theorem grownBy_mono {w w' : World} (h : w.grownBy w' none) (row : Option Nat) : w.grownBy w' row := ⟨h.os, h.tape, h.output, h.size, fun k hk _ => h.block k hk (by simp)⟩
theorem grownBy_below {w w' : World} (h : Below w.heap.size w w') (row : Option Nat) : w.grownBy w' row := ⟨h.os, h.tape, h.output, h.size, fun k hk _ => h.block k hk⟩

/-! ### the kind of a block -/
/-- the type of a row of cells; 1000 for a map -/
def tag (w : World) (b : Nat) : Nat := match w.heap[b]? with | some (.cells _ t _) => t + 1 | some (.map _ _) => 1000 | _ => 0
theorem tag_row {w : World} {b t n : Nat} {f : Nat → Value} (h : w.rowIs b t n f) : tag w b = t + 1 := by
  obtain ⟨c, hb, _⟩ := h; simp [tag, hb]
theorem tag_map {w : World} {H : Type} {P : Program} {k b n : Nat} {R : Value → Option (DataW H × List MemPlace)} {D : DataW H} (h : w.ownsMap P k R b n D) : tag w b = 1000 := by
  obtain ⟨es, cl, hb, _⟩ := h; simp [tag, hb]
theorem tag_own {w : World} {B e s n g : Nat} {v : Value} {xs : List Value} (h : w.ownsRow B e s v n xs) (hg : v.ownBlock = some g) : tag w g = e + 1 := by
  rcases h.2 with ⟨rfl, _⟩ | ⟨g', cap, cur, rfl, _, hh, _⟩
  · simp [Value.ownBlock] at hg
  · simp [Value.ownBlock] at hg
    subst hg
    simp [tag, hh]

theorem rowIs_kept {w w' : World} {b t n : Nat} {f : Nat → Value} {row : Option Nat} (h : w.rowIs b t n f) (hg : w.grownBy w' row) (hne : some b ≠ row) : w'.rowIs b t n f :=
  World.rowIs.of_block h (hg.block b (World.rowIs.lt h) hne)

/-! ### maps of whatever values -/
def RV : Value → Option (DataW Value × List MemPlace) := fun v => some (.held v, [])
theorem RV_mk (v : Value) : RV v = some (.held v, []) := rfl

theorem tight {w : World} {b n : Nat} {D : DataW Value} (h : w.ownsMap Try.prog 9 RV b n D) {m : Nat} (hm : Maps.size D ≤ m) : w.ownsMap Try.prog 9 RV b m D := by
  obtain ⟨es, cl, hb, F, hs, rfl⟩ := h
  refine ⟨es, cl, hb, F, ?_, rfl⟩
  simp only [Maps.size, length_sorted, List.length_map, Array.length_toList] at hm
  exact hm

/-- a list without repeats among the members of another is no longer -/
theorem nodup_le {α : Type} [DecidableEq α] : ∀ (l m : List α), l.Nodup → (∀ x ∈ l, x ∈ m) → l.length ≤ m.length
  | [], _, _, _ => Nat.zero_le _
  | x :: l, m, hn, hs => by
    have hx : x ∈ m := hs x (by simp)
    have hn' := List.nodup_cons.1 hn
    have ih := nodup_le l (m.erase x) hn'.2 (fun y hy => (List.mem_erase_of_ne (fun (e : y = x) => hn'.1 (by rw [← e]; exact hy))).2 (hs y (by simp [hy])))
    rw [List.length_erase_of_mem hx] at ih
    have : 0 < m.length := List.length_pos_of_mem hx
    simp only [List.length_cons]
    omega

def names : List UInt8 := [97, 98, 99, 100, 101]
theorem mem_names {u : UInt8} (h : IsNm u) : u ∈ names := by
  obtain ⟨h1, h2⟩ := h
  have h3 : u.toNat = 97 ∨ u.toNat = 98 ∨ u.toNat = 99 ∨ u.toNat = 100 ∨ u.toNat = 101 := by omega
  have h4 : ∀ v : UInt8, u.toNat = v.toNat → u = v := fun v e => UInt8.toNat_inj.1 e
  rcases h3 with h | h | h | h | h
  · rw [h4 97 h]; simp [names]
  · rw [h4 98 h]; simp [names]
  · rw [h4 99 h]; simp [names]
  · rw [h4 100 h]; simp [names]
  · rw [h4 101 h]; simp [names]

/-- a map whose keys are names has at most five -/
theorem size_names {w : World} {b n : Nat} {D : DataW Value} (h : w.ownsMap Try.prog 9 RV b n D) (hk : ∀ l, Maps.has D (.string l) = true → ∃ u, l = [u] ∧ IsNm u) : Maps.size D ≤ 5 := by
  obtain ⟨es, rfl, hp, hkey⟩ := h.entries law9
  have hstr : ∀ p ∈ es, ∃ u, p.1 = .string [u] ∧ IsNm u := by
    intro p hpm
    have hl := hkey p hpm
    have hs : p.1.sameKey p.1 = true := WideAt.sameKey_self hl
    have hk' : ∃ l, p.1 = .string l := by
      obtain ⟨es', cl, hb, F, _, hD⟩ := h
      simp only [DataW.map.injEq] at hD
      have hm : p ∈ es'.toList.map (WideElems.rg Try.prog 9 RV) := by rw [hD] at hpm; exact mem_sorted.1 hpm
      obtain ⟨x, hx, rfl⟩ := List.mem_map.1 hm
      obtain ⟨y, hy⟩ := F.reads x hx
      have := WideElems.rd_key hy
      rw [show WideElems.rg Try.prog 9 RV x = y from by simp [WideElems.rg, hy]]
      cases hxk : x.key <;> rw [hxk] at this <;> simp [keyOf, Try.underlying9, mapKey] at this
      exact ⟨_, this.2.symm⟩
    obtain ⟨l, hl'⟩ := hk'
    have hh : Maps.has (.map es) (.string l) = true := by
      rw [has_eq]
      exact List.any_eq_true.2 ⟨p, hpm, by rw [hl'] at hs ⊢; exact hs⟩
    obtain ⟨u, rfl, hu⟩ := hk l hh
    exact ⟨u, hl', hu⟩
  have hlen : es.length = (es.map (fun p => p.1)).length := by simp
  show es.length ≤ 5
  rw [hlen]
  letI : DecidableEq Lit := fun a b => Classical.propDecidable (a = b)
  have := nodup_le (α := Lit) (es.map (fun p => p.1)) (names.map fun u => .string [u]) (by
    rw [List.Nodup, List.pairwise_map]
    exact hp) (by
    intro x hx
    obtain ⟨p, hpm, rfl⟩ := List.mem_map.1 hx
    obtain ⟨u, hu, hn⟩ := hstr p hpm
    exact List.mem_map.2 ⟨u, mem_names hn, hu.symm⟩)
  simpa [names] using this
end Go.Proofs.Qxb6002353a
