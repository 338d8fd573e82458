/-
  A NODE AMONG OTHERS (its blocks stand: it stands), AND A NODE THAT COMES TO HEAR OF ONE MORE. No walk in this text.
-/
import Derived.Test.Qxb6002353aTen
import Derived.Test.Qxb6002353aIns
namespace Go.Proofs.Qxb6002353a
open Go.RowKit Go.Maps

section blk
variable {S : Nat → Prop} {w w' : World} {Dd : UInt8 → Prop}

theorem own_blk {e s n : Nat} {v : Value} {xs : List Value} (h : w.ownsRow 0 e s v n xs) (hk : ∀ g, v.ownBlock = some g → w'.heap[g]? = w.heap[g]?) : w'.ownsRow 0 e s v n xs := by
  refine ⟨h.1, ?_⟩
  rcases h.2 with e | ⟨g, cp, cur, rfl, e2, e3, e4⟩
  · exact .inl e
  · exact .inr ⟨g, cp, cur, rfl, e2, (hk g rfl).trans e3, e4⟩
theorem map_blk {b n : Nat} {D : DataW Value} (h : w.ownsMap Try.prog 9 RV b n D) (hk : w'.heap[b]? = w.heap[b]?) : w'.ownsMap Try.prog 9 RV b n D := by
  obtain ⟨es, cl, hb, hr⟩ := h
  exact ⟨es, cl, hk.trans hb, hr⟩
theorem RecIs.blk {rb c : Nat} (h : RecIs S w rb Dd c) (h1 : w'.heap[rb]? = w.heap[rb]?) (h2 : ∀ g, S g → Qxb6002353a.tag w g = 10 → w'.heap[g]? = w.heap[g]?) : RecIs S w' rb Dd c := by
  obtain ⟨iv, fv, bad, xi, xf, a1, a2, a3, a4, a5, a6, a7, a8, a9⟩ := h
  exact ⟨iv, fv, bad, xi, xf, World.rowIs.of_block a1 h1, own_blk a2 (fun g hg => h2 g (a7 g hg) (tag_own a2 hg)), own_blk a3 (fun g hg => h2 g (a8 g hg) (tag_own a3 hg)), a4, a5, a6, a7, a8, a9⟩
theorem Entries.blk {v : Value} (h : Entries S w Dd v) (h2 : ∀ g, S g → Qxb6002353a.tag w g = 92 → w'.heap[g]? = w.heap[g]?) : Entries S w' Dd v := by
  obtain ⟨xs, a1, a2, a3, a4⟩ := h
  exact ⟨xs, own_blk a1 (fun g hg => h2 g (a4 g hg) (tag_own a1 hg)), a2, a3, a4⟩
end blk

section
variable {S : Nat → Prop} {w w' : World} {F : Fx} {Dd K : UInt8 → Prop} {c : Nat} {r : Int} {ab cap ab' cap' : Nat} {L L' : List Nat} {φ φ' : Nat → UInt8 → Value → Value → Value → Prop} {N G G' : Nat → Value} {pid pid' : Nat → UInt8} {P : Nat → Nat → Value}

/-- a node stands where its blocks stand -/
theorem NodeIs.blocks (h : NodeIs S w F Dd c r ab cap L φ N G pid P K) (hk : ∀ k, S k → w'.heap[k]? = w.heap[k]?) : NodeIs S w' F Dd c r ab cap L φ N G pid P K := by
  obtain ⟨s1, s2, s3, s4, s5, s6, s7, s8⟩ := h.inS
  exact { h with
    nrow := World.rowIs.of_block h.nrow (hk _ s1)
    car := h.car.blk (fun g hg _ => hk g hg)
    brow := World.rowIs.of_block h.brow (hk _ s2)
    peer := fun b hb => ⟨⟨World.rowIs.of_block (h.peer b hb).1.row (hk _ (s3 b hb)), (h.peer b hb).1.p0, (h.peer b hb).1.ty⟩, (h.peer b hb).2⟩
    pmap := by obtain ⟨D, a, b⟩ := h.pmap; exact ⟨D, map_blk a (hk _ s4), b⟩
    qmap := by obtain ⟨D, a, b⟩ := h.qmap; exact ⟨D, map_blk a (hk _ s5), b⟩
    nmap := by obtain ⟨D, a, b⟩ := h.nmap; exact ⟨D, map_blk a (hk _ s6), b⟩
    recd := h.recd.blk (hk _ s7) (fun g hg _ => hk g hg)
    cbox := World.rowIs.of_block h.cbox (hk _ s8) }

theorem NodeOK.blocks (h : NodeOK S w F Dd c r ab cap L φ) (hk : ∀ k, S k → w'.heap[k]? = w.heap[k]?) : NodeOK S w' F Dd c r ab cap L φ := by
  obtain ⟨N, G, pid, P, K, h⟩ := h
  exact ⟨N, G, pid, P, K, h.blocks hk⟩

theorem MsgOK.blocks {u : UInt8} {v : Value} (h : MsgOK S w Dd u v) (hk : ∀ k, S k → w'.heap[k]? = w.heap[k]?) : MsgOK S w' Dd u v := by
  obtain ⟨M, xa, rs, h1, h2, h3, h4, h5, h6, h7, h8, h9, h10⟩ := h
  exact ⟨M, xa, rs, h1, h2, h3.blk (fun g hg _ => hk g hg), own_blk h4 (fun g hg => hk g (h9 g hg)), own_blk h5 (fun g hg => hk g (h10 g hg)), h6, h7, h8, h9, h10⟩

/-- 'm[u] = p' on the peers, u a new name -/
theorem PeersMap.store {pm : Nat} (h : PeersMap w pm L pid) (hn : ∀ b ∈ L, IsNm (pid b)) {u : UInt8} (hu : IsNm u) (hno : ∀ b ∈ L, pid b ≠ u) {pb : Nat} (hpb : pb ∉ L) :
    ∃ w2, (Instr.mapUpdate 59 (.map (some pm)) (.string (idb u)) (.pointer (some ⟨pb, 0, none⟩))).run Try.prog w = .ok () w2 ∧ (∀ L' : List Nat, (∀ b, b ∈ L' ↔ b ∈ L ∨ b = pb) → PeersMap w2 pm L' (fun b => if b = pb then u else pid b)) ∧ w.grownBy w2 (some pm) := by
  obtain ⟨D, hown, h1, h2⟩ := h
  obtain ⟨w2, hr, hown2, hg⟩ := hown.update law9 Try.underlying59 (by unfold maxLen; omega) (key_idb u) (RV_mk (.pointer (some ⟨pb, 0, none⟩)))
  have hm := hown.isMap
  refine ⟨w2, hr, fun L' hL => ?_, hg⟩
  have hk : ∀ l, Maps.has (D.put (.string [u]) (.held (.pointer (some ⟨pb, 0, none⟩)))) (.string l) = true → ∃ b ∈ L', l = [if b = pb then u else pid b] := by
    intro l hl
    by_cases e : l = [u]
    · subst e
      exact ⟨pb, (hL pb).2 (.inr rfl), by rw [if_pos rfl]⟩
    · have hne : Lit.string l ≠ Lit.string [u] := fun e' => e (by cases e'; rfl)
      rw [has_put_other hne] at hl
      obtain ⟨b, hb, e1⟩ := h2 l hl
      exact ⟨b, (hL b).2 (.inl hb), by rw [if_neg (fun e => hpb (by rw [← e]; exact hb))]; exact e1⟩
  refine ⟨_, tight hown2 (size_names hown2 (fun l hl => ?_)), fun b hb z => ?_, hk⟩
  · obtain ⟨b, hb, e1⟩ := hk l hl
    refine ⟨_, e1, ?_⟩
    by_cases e : b = pb
    · rw [if_pos e]; exact hu
    · rw [if_neg e]; exact hn b (((hL b).1 hb).resolve_right e)
  · by_cases e : b = pb
    · subst e
      simp only [if_true]
      exact atKey_put_same hm (lit_key u) _ _
    · have hb' := ((hL b).1 hb).resolve_right e
      simp only [if_neg e]
      rw [atKey_put_other (fun e' => hno b hb' (by cases e'; rfl))]
      exact h1 b hb' z

/-- the node has heard of one more -/
theorem NodeIs.addPeer (h : NodeIs S w F Dd c r ab cap L φ N G pid P K) {u : UInt8} (hu : IsNm u) (hno : ∀ b ∈ L, pid b ≠ u) {pb : Nat} {Pb : Nat → Value} {i : Nat} (hL : L' = L.take i ++ pb :: L.drop i) (hi : i ≤ L.length) (hpb : pb ∉ L)
    (hk : ∀ k, k < w.heap.size → k ≠ F.pm → k ≠ ab → k ≠ F.nb → w'.heap[k]? = w.heap[k]?)
    (hN : w'.rowIs F.nb 64 24 (put N 5 (.slice (some ⟨ab', 0, none⟩) L'.length cap'))) (hB : w'.rowIs ab' 74 cap' G') (hG : ∀ j, j < L.length + 1 → G' j = ins G i (.pointer (some ⟨pb, 0, none⟩)) j) (hc : L.length + 1 ≤ cap' ∧ cap' ≤ maxLen)
    (hP : PeersMap w' F.pm L' (fun b => if b = pb then u else pid b)) (hQ : PeerIs w' pb u Pb) (h0 : φ' pb u (Pb 3) (Pb 4) (Pb 9)) (hφ : ∀ b ∈ L, φ b (pid b) (P b 3) (P b 4) (P b 9) → φ' b (pid b) (P b 3) (P b 4) (P b 9))
    (hab : ab' = ab ∨ w.heap.size ≤ ab') (hpb0 : w.heap.size ≤ pb) :
    NodeIs (grow S w w') w' F Dd c r ab' cap' L' φ' (put N 5 (.slice (some ⟨ab', 0, none⟩) L'.length cap')) G' (fun b => if b = pb then u else pid b) (fun b => if b = pb then Pb else P b) K := by
  obtain ⟨s1, s2, s3, s4, s5, s6, s7, s8⟩ := h.inS
  obtain ⟨d1, d2, d3⟩ := h.dif
  have tn := tag_row h.nrow
  have tb := tag_row h.brow
  have tp := h.pmap.tag
  have hlen : L'.length = L.length + 1 := by rw [hL]; simp; omega
  have hmem : ∀ b, b ∈ L' ↔ b ∈ L ∨ b = pb := fun b => by
    rw [hL, List.mem_append, List.mem_cons]
    conv => rhs; rw [← List.take_append_drop i L, List.mem_append]
    constructor
    · rintro (e | e | e)
      · exact .inl (.inl e)
      · exact .inr e
      · exact .inl (.inr e)
    · rintro ((e | e) | e)
      · exact .inl e
      · exact .inr (.inr e)
      · exact .inr (.inl e)
  have ne : ∀ k, tag w k ≠ 1000 → tag w k ≠ 75 → tag w k ≠ 65 → k < w.heap.size → w'.heap[k]? = w.heap[k]? := fun k e1 e2 e3 hl =>
    hk k hl (fun e => e1 (by rw [e]; exact tp)) (fun e => e2 (by rw [e]; exact tb)) (fun e => e3 (by rw [e]; exact tn))
  have tlt : ∀ k, tag w k ≠ 0 → k < w.heap.size := fun k hk => by
    rcases Nat.lt_or_ge k w.heap.size with e | e
    · exact e
    · exact absurd (by simp [tag, Array.getElem?_eq_none e]) hk
  have o : ∀ j, j ≠ 5 → put N 5 (.slice (some ⟨ab', 0, none⟩) L'.length cap') j = N j := fun j hj => put_other N 5 j _ hj
  have hinS : ∀ b, b ∈ L' → grow S w w' b := fun b hb => by
    rcases (hmem b).1 hb with e | e
    · exact .inl (s3 b e)
    · exact .inr ⟨by omega, by rw [e]; exact World.rowIs.lt hQ.row⟩
  refine { h with
    nrow := hN
    n0 := (o 0 (by decide)).trans h.n0
    n3 := (o 3 (by decide)).trans h.n3
    n4 := (o 4 (by decide)).trans h.n4
    n5 := put_same _ _ _
    n7 := by rw [o 7 (by decide)]; exact h.n7
    n8 := (o 8 (by decide)).trans h.n8
    n11 := (o 11 (by decide)).trans h.n11
    n12 := (o 12 (by decide)).trans h.n12
    nty := fun j hj => by
      by_cases e : j = 5
      · subst e; exact Ty.mk0 _
      · rw [o j e]; exact h.nty j hj
    car := by
      rw [o 9 (by decide)]
      exact (h.car.blk (fun g hg hgt => ne g (by omega) (by omega) (by omega) (tlt g (by omega)))).mono (fun _ e => .inl e) (fun _ e => e)
    brow := hB
    bptr := fun j hj => ?_
    bcap := by rw [hlen]; exact hc
    l5 := ?_
    lnd := ?_
    peer := fun b hb => ?_
    self := ⟨(hmem _).2 (.inl h.self.1), by rw [if_neg (fun e => hpb (by rw [← e]; exact h.self.1))]; exact h.self.2⟩
    pmap := hP
    qmap := by obtain ⟨D, a, b⟩ := h.qmap; exact ⟨D, map_blk a (hk _ a.lt (fun e => d1 e.symm) (fun e => by have := tag_map a; rw [e, tb] at this; cases this) (fun e => by have := tag_map a; rw [e, tn] at this; cases this)), b⟩
    nmap := by obtain ⟨D, a, b⟩ := h.nmap; exact ⟨D, map_blk a (hk _ a.lt (fun e => d2 e.symm) (fun e => by have := tag_map a; rw [e, tb] at this; cases this) (fun e => by have := tag_map a; rw [e, tn] at this; cases this)), b⟩
    recd := by
      have trb : tag w F.rb = 39 := by
        obtain ⟨iv, fv, bad, xi, xf, h1, _⟩ := h.recd
        exact tag_row h1
      exact (h.recd.blk (ne _ (by omega) (by omega) (by omega) (tlt _ (by omega))) (fun g hg hgt => ne g (by omega) (by omega) (by omega) (tlt g (by omega)))).mono (fun _ e => .inl e) (fun _ e => e) (Nat.le_refl _)
    cbox := by
      have := tag_row h.cbox
      exact World.rowIs.of_block h.cbox (ne _ (by omega) (by omega) (by omega) (tlt _ (by omega)))
    inS := ⟨.inl s1, ?_, hinS, .inl s4, .inl s5, .inl s6, .inl s7, .inl s8⟩ }
  · rw [hG j (by omega)]
    unfold ins
    have hget : L'[j]? = some L'[j] := List.getElem?_eq_getElem hj
    generalize L'[j] = y at hget
    rw [hL] at hget
    by_cases e1 : j < i
    · rw [if_pos e1]
      rw [List.getElem?_append_left (by rw [List.length_take]; omega), List.getElem?_take, if_pos e1, List.getElem?_eq_getElem (by omega)] at hget
      rw [← Option.some.inj hget]
      exact h.bptr j (by omega)
    · rw [if_neg e1]
      rw [List.getElem?_append_right (by rw [List.length_take]; omega), List.length_take, show min i L.length = i by omega] at hget
      by_cases e2 : j = i
      · rw [if_pos e2]
        rw [show j - i = 0 by omega] at hget
        simp at hget
        rw [hget]
      · rw [if_neg e2]
        rw [show j - i = (j - i - 1) + 1 by omega, List.getElem?_cons_succ, List.getElem?_drop, show i + (j - i - 1) = j - 1 by omega, List.getElem?_eq_getElem (by omega)] at hget
        rw [← Option.some.inj hget]
        exact h.bptr (j - 1) (by omega)
  · -- at most five
    rw [hlen]
    have hnd : (L.map pid).Nodup := by
      rw [List.Nodup, List.pairwise_map]
      exact List.Pairwise.imp_of_mem (fun {a b} ha hb hne e => hne (h.one ha hb e)) h.lnd
    have hnd2 : (u :: L.map pid).Nodup := List.nodup_cons.2 ⟨fun hm => by
      obtain ⟨b, hb, e⟩ := List.mem_map.1 hm
      exact hno b hb e, hnd⟩
    have := nodup_le (u :: L.map pid) names hnd2 (fun x hx => by
      rcases List.mem_cons.1 hx with e | e
      · rw [e]; exact mem_names hu
      · obtain ⟨b, hb, e⟩ := List.mem_map.1 e
        rw [← e]; exact mem_names (h.peer b hb).2.1)
    simpa [names] using this
  · rw [hL]
    refine (List.Perm.nodup_iff (List.perm_middle)).2 (List.nodup_cons.2 ⟨?_, ?_⟩)
    · rw [List.take_append_drop]; exact hpb
    · rw [List.take_append_drop]; exact h.lnd
  · rcases (hmem b).1 hb with e | e
    · have e' : b ≠ pb := fun e' => hpb (by rw [← e']; exact e)
      simp only [if_neg e']
      have hp := h.peer b e
      have htb := tag_row hp.1.row
      exact ⟨⟨World.rowIs.of_block hp.1.row (ne _ (by omega) (by omega) (by omega) (tlt _ (by omega))), hp.1.p0, hp.1.ty⟩, hp.2.1, hφ b e hp.2.2⟩
    · subst e
      simp only [if_true]
      exact ⟨hQ, hu, h0⟩
  · rcases hab with e | e
    · rw [e]; exact .inl s2
    · exact .inr ⟨e, World.rowIs.lt hB⟩
end
end Go.Proofs.Qxb6002353a
