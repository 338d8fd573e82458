/-
  suspG1NoLiveSuspected: it says true, and forgets.
-/
import Derived.Test.Qxb6002353aNet
namespace Go.Proofs.Qxb6002353a
open Go.RowKit Go.Maps

section
variable {S : Nat → Prop} {w : World} {F : Fx} {Dd K : UInt8 → Prop} {c : Nat} {r : Int} {ab cap : Nat} {L : List Nat} {φ : Nat → UInt8 → Value → Value → Value → Prop} {N G : Nat → Value} {pid : Nat → UInt8} {P : Nat → Nat → Value}

theorem RecIs.tag {rb : Nat} (h : RecIs S w rb Dd c) : Qxb6002353a.tag w rb = 39 := by
  obtain ⟨iv, fv, bad, xi, xf, h1, _⟩ := h
  exact tag_row h1

/-- what it heard is forgotten -/
theorem NodeIs.forget (h : NodeIs S w F Dd c r ab cap L φ N G pid P K) : NodeIs S (w.setCell ⟨F.rb, 2, none⟩ (.slice none 0 0)) F Dd c r ab cap L φ N G pid P K := by
  have t0 := h.recd.tag
  have hg := grownBy_setCell w ⟨F.rb, 2, none⟩ (.slice none 0 0)
  have ne : ∀ k, tag w k ≠ 39 → some k ≠ some F.rb := fun k hk e => by cases e; exact hk t0
  exact { h with
    nrow := rowIs_kept h.nrow hg (ne _ (by rw [tag_row h.nrow]; decide))
    car := h.car.kept hg (fun g hgv => ne g (by rw [h.car.tag hgv]; decide))
    brow := rowIs_kept h.brow hg (ne _ (by rw [tag_row h.brow]; decide))
    peer := fun b hb => ⟨(h.peer b hb).1.kept hg (ne _ (by rw [tag_row (h.peer b hb).1.row]; decide)), (h.peer b hb).2⟩
    pmap := h.pmap.kept hg (ne _ (by rw [h.pmap.tag]; decide))
    qmap := h.qmap.kept hg (ne _ (by rw [h.qmap.tag]; decide))
    nmap := h.nmap.kept hg (ne _ (by rw [h.nmap.tag]; decide))
    recd := by
      obtain ⟨iv, fv, bad, xi, xf, h1, h2, h3, h4, h5, h6, h7, h8, h9⟩ := h.recd
      refine ⟨iv, .slice none 0 0, bad, xi, [], World.rowIs.congr (rowIs_put h1 2 (.slice none 0 0)) (fun i hi => ?_), own_off h2 (fun e => by have := tag_own h2 e; rw [t0] at this; cases this), World.ownsRow_nil _ _ _ _, h4, Nat.zero_le _, by simp, h7, by simp [Value.ownBlock], ?_⟩
      · by_cases e : i = 2
        · subst e; rw [put_same]; rfl
        · rw [put_other _ _ _ _ e]
          have : i = 0 ∨ i = 1 := by omega
          rcases this with rfl | rfl <;> rfl
      · cases hv : iv.ownBlock with
        | none => exact .inl rfl
        | some g => exact .inr (by simp [Value.ownBlock])
    cbox := rowIs_kept h.cbox hg (ne _ (by rw [tag_row h.cbox]; decide)) }
end

section
variable {w : World} {k ndb rcb : Nat} {Fs : Nat → Fx} {Ss : Nat → Nat → Prop} {E : Nat → Prop} {Dd : UInt8 → Prop} {c : Nat} {H : Nat → UInt8 → Prop} {Z : Nat → Prop}

theorem Net.rb (n : Net w k k ndb rcb Fs Ss E Dd c H Z) {x : Nat} (hx : x < k) : Ss x (Fs x).rb := by
  obtain ⟨r, ab, cap, L, Zs, ⟨N, G, pid, P, K, hi⟩, hz⟩ := n.node x hx
  exact hi.inS.2.2.2.2.2.2.1

theorem Net.forget (n : Net w k k ndb rcb Fs Ss E Dd c H Z) {x : Nat} (hx : x < k) : Net (w.setCell ⟨(Fs x).rb, 2, none⟩ (.slice none 0 0)) k k ndb rcb Fs Ss E Dd c H Z := by
  have hrb := n.rb hx
  have hz : (w.setCell ⟨(Fs x).rb, 2, none⟩ (.slice none 0 0)).heap.size = w.heap.size := by simp [World.setCell]
  have ke : ∀ i, i ≠ (Fs x).rb → (w.setCell ⟨(Fs x).rb, 2, none⟩ (.slice none 0 0)).heap[i]? = w.heap[i]? := fun i hi => Below.heap_setCell _ _ _ _ hi
  exact { n with
    nrow := World.rowIs.of_block n.nrow (ke _ (fun e => (n.low x hx _ hrb).2 (by rw [← e]; exact n.eN)))
    rrow := World.rowIs.of_block n.rrow (ke _ (fun e => (n.low x hx _ hrb).2 (by rw [← e]; exact n.eR)))
    node := fun y hy => by
      by_cases e : y = x
      · subst e
        obtain ⟨r, ab, cap, L, Zs, ⟨N, G, pid, P, K, hi⟩, hz⟩ := n.node y hy
        exact ⟨r, ab, cap, L, Zs, ⟨N, G, pid, P, K, hi.forget⟩, hz⟩
      · exact (n.node y hy).blocks (fun i hi => ke i (fun e' => n.dis y x hy hx e i hi (by rw [e']; exact hrb)))
    low := fun y hy i hi => ⟨by rw [hz]; exact (n.low y hy i hi).1, (n.low y hy i hi).2⟩
    eL := fun i hi => by rw [hz]; exact n.eL i hi }

/-- the recorders -/
def Rbs (Fs : Nat → Fx) (k : Nat) : Nat → Prop := fun i => ∃ x, x < k ∧ i = (Fs x).rb

def NolPost (w : World) (k ndb rcb : Nat) (Fs : Nat → Fx) (Ss : Nat → Nat → Prop) (E : Nat → Prop) (Dd : UInt8 → Prop) (c : Nat) (H : Nat → UInt8 → Prop) (Z : Nat → Prop) (e : Ending) (w' : World) : Prop :=
  e = .returned (.bool true) ∧ Net w' k k ndb rcb Fs Ss E Dd c H Z ∧ Touch (Rbs Fs k) w w'

theorem CrashIs.blk {w w' : World} {v : Value} {cs : List Int} (h : CrashIs w v cs) (hk : ∀ g, v.ownBlock = some g → w'.heap[g]? = w.heap[g]?) : CrashIs w' v cs := by
  rcases h with h | ⟨b, rfl, h2, h3⟩
  · exact .inl h
  · exact .inr ⟨b, rfl, World.rowIs.of_block h2 (hk b rfl), h3⟩

set_option maxHeartbeats 8000000 in
set_option maxRecDepth 100000 in
theorem nolive_any {cs : List Int} {p : Nat} {crv : Value} (n : Net w k k ndb rcb Fs Ss E (DdP cs k p) c H Z) (hk : k ≤ 5) (hc : CrashIs w crv cs) (hcE : ∀ g, crv.ownBlock = some g → E g) (hcs : ∀ z ∈ cs, 0 ≤ z ∧ z ≤ 255) (hc6 : c ≤ 1000000) :
    Calls Try.prog 18 #[.slice (some ⟨rcb, 0, none⟩) k k, crv, .int .i64 (p : Int)] w (NolPost w k ndb rcb Fs Ss E (DdP cs k p) c H Z) := by
  have HN := hide0 n
  have HC := hide0 hc
  have HE := hide0 hcE
  have HCS := hide0 hcs
  clear n hc hcE hcs
  go_enter Try.func18, Try.ntmps18
  go_wp2_with fail
  go_loopw [8] (fun i wr => ∃ x : Nat, x ≤ k ∧ i = .int .i64 x ∧ Net wr k k ndb rcb Fs Ss E (DdP cs k p) c H Z ∧ Touch (Rbs Fs k) w wr) (fun i _ => k - (intOf i).toNat)
  case atStart => exact ⟨0, Nat.zero_le _, rfl, HN.out, Touch.refl _ _⟩
  case round =>
    obtain ⟨x, hx, rfl, hn, ht⟩ := hrel
    have HNR := hide0 hn
    have HT := hide0 ht
    by_cases hlt : x < k
    · have d1 : wr.cell? ⟨rcb, x, none⟩ = some (.pointer (some ⟨(Fs x).rb, 0, none⟩)) := by
        have := World.rowIs.cell hn.rrow hlt
        rw [this]; simp [ptrs, hlt]
      have hrl := World.rowIs.lt hn.rrow
      obtain ⟨r, ab, cap, L, Zs, ⟨N, G, pid, P, K, hi⟩, -⟩ := hn.node x hlt
      obtain ⟨iv, fv, bad, xi, xf, h1, h2, h3, h4, h5, h6, h7, h8, h9⟩ := hi.recd
      obtain ⟨pf, cf, rfl, hpf, hcf⟩ := own_at h3
      have d2 : wr.cell? ⟨(Fs x).rb, 2, none⟩ = some (.slice pf xf.length cf) := by simpa using World.rowIs.cell h1 (i := 2) (by omega)
      have f2 := World.rowIs.frozen h1 2
      have hbl := World.rowIs.lt h1
      have HF : Hid (∀ j, j < xf.length → ∃ g u, pf = some ⟨g, 0, none⟩ ∧ g < wr.heap.size ∧ wr.cell? ⟨g, j, none⟩ = some (.string (idb u)) ∧ DdP cs k p u) := fun j hj => by
        obtain ⟨g, hg⟩ := hpf (by omega)
        have q := ((hcf g hg).2 j (by simpa using hj)).1
        rw [List.getElem_map] at q
        exact ⟨g, _, hg, block_lt_of_cell q, q, h6 _ (List.getElem_mem hj)⟩
      have hcr : CrashIs wr crv cs := HC.out.blk (fun g hg => ht.block g (HN.out.eL g (HE.out g hg)) (fun e => by
        obtain ⟨y, hy, rfl⟩ := e
        exact (HN.out.low y hy _ (HN.out.rb hy)).2 (HE.out _ hg)))
      have HCR := hide0 hcr
      have h1000 : xf.length ≤ c := h5
      clear hn ht hi h1 h2 h3 h4 h5 h6 h7 h8 h9 hpf hcf hcr
      generalize xf.length = nf at *
      go_wp2_with fail
      go_loop [10] (fun i => ∃ t : Nat, t ≤ nf ∧ i = .int .i64 t) (fun i => nf - (intOf i).toNat)
      case atStart => exact ⟨0, Nat.zero_le _, rfl⟩
      case round =>
        obtain ⟨t, ht, rfl⟩ := hrel
        by_cases htl : t < nf
        · obtain ⟨g, u, rfl, hgl, q, hdu⟩ := HF.out t htl
          have HDU := hide0 hdu
          clear hdu
          go_upto_region 10 with (go_at_call 20; refine (index_any u k hk _).mono ?_; rintro e w' ⟨z, rfl, hz, rfl⟩)
          rcases hz with rfl | ⟨j, hj, rfl, hju⟩
          · go_wp2_with fail
            go_round
            case rel => exact ⟨t + 1, by omega, by go_num⟩
            case measure => simp [intOf]; omega
          · have hl : liveB cs j p = false := DdP.gone hj (by rw [← hju]; exact HDU.out)
            have H16 := live_any HCR.out HCS.out j p
            rw [hl] at H16
            clear hl hju
            go_wp2_with (go_at_call 16; refine H16.mono ?_; rintro e w' ⟨rfl, rfl⟩)
            go_round
            case rel => exact ⟨t + 1, by omega, by go_num⟩
            case measure => simp [intOf]; omega
        · clear HF
          go_wp2_with fail
          go_roundw
          case rel => exact ⟨x + 1, by omega, by go_num, HNR.out.forget hlt, HT.out.setCell (.inl ⟨x, hlt, rfl⟩) _⟩
          case measure => simp [intOf]; omega
    · clear HNR HT
      have HNR := hide0 hn
      have HT := hide0 ht
      clear hn ht
      go_wp2_with fail
      go_ret
      exact ⟨rfl, HNR.out, HT.out⟩
end
end Go.Proofs.Qxb6002353a
