import Derived.Test.Qxb6002353aOnes
namespace Go.Proofs.Qxb6002353a
open Go.RowKit Go.Maps

/-- the head of a message, in its cells -/
def Head (u : UInt8) (M : Nat → Value) : Prop :=
  ∃ (k rd wt : Int) (su : Bool) (ho di : Int), M 0 = .int .u8 k ∧ M 1 = .string (idb u) ∧ M 2 = .int .u64 rd ∧ M 3 = .int .u64 wt ∧ M 4 = .bool su ∧ M 5 = .int .u64 ho ∧ M 6 = .int .u64 di ∧ (k = 2 ∨ k = 3) ∧ 0 ≤ rd ∧ 0 ≤ wt ∧ 0 ≤ ho ∧ 0 ≤ di

def aggOf (M : Nat → Value) : Value := .agg #[M 0, M 1, M 2, M 3, M 4, M 5, M 6, M 7, M 8, M 9]

/-- a message as it goes from hand to hand: its head, and its three lists, that lie in S -/
def MsgOK (S : Nat → Prop) (w : World) (Dd : UInt8 → Prop) (u : UInt8) (v : Value) : Prop :=
  ∃ (M : Nat → Value) (xa : List UInt8) (rs : List Int), v = aggOf M ∧ Head u M ∧ Entries S w Dd (M 7) ∧ w.ownsRow 0 9 1 (M 8) xa.length (xa.map fun u => .string (idb u)) ∧ w.ownsRow 0 40 1 (M 9) rs.length (rs.map fun z => .int .u64 z) ∧
    xa.length = rs.length ∧ xa.length ≤ 5 ∧ (∀ z ∈ rs, 0 ≤ z) ∧ (∀ g, (M 8).ownBlock = some g → S g) ∧ (∀ g, (M 9).ownBlock = some g → S g)

/-- a node at work on a message that lies in a block of its own -/
def QX (S : Nat → Prop) (wb wd : World) (F : Fx) (Dd : UInt8 → Prop) (c : Nat) (r : Int) (ab cap : Nat) (L : List Nat) (φ : Nat → UInt8 → Value → Value → Value → Prop) (mb : Nat) (M : Nat → Value) : Prop :=
  NodeOK (grow S wb wd) wd F Dd c r ab cap L φ ∧ Touch (fun i => S i ∨ i = mb) wb wd ∧ wd.rowIs mb 44 10 M ∧ ¬ S mb ∧ mb < wb.heap.size

section
variable {S : Nat → Prop} {wb wd we : World} {F : Fx} {Dd : UInt8 → Prop} {c c' : Nat} {r r' : Int} {ab ab' cap cap' : Nat} {L L' : List Nat} {φ φ' : Nat → UInt8 → Value → Value → Value → Prop} {mb : Nat} {M : Nat → Value}

theorem QX.out (h : QX S wb wd F Dd c r ab cap L φ mb M) : ¬ grow S wb wd mb := fun e => by
  rcases e with e | e
  · exact h.2.2.2.1 e
  · have := h.2.2.2.2; omega

theorem QX.next (h : QX S wb wd F Dd c r ab cap L φ mb M) (k : NG (grow S wb wd) wd we F Dd c' r' ab' cap' L' φ') : QX S wb we F Dd c' r' ab' cap' L' φ' mb M := by
  refine ⟨k.1.monoS fun _ e => grow_trans h.2.1.size k.2.size e, h.2.1.trans (k.2.mono fun i hi => ?_), h.2.2.1.of_block (k.2.block mb (World.rowIs.lt h.2.2.1) h.out), h.2.2.2⟩
  rcases hi with hi | hi
  · exact .inl (.inl hi)
  · exact .inr hi

theorem QX.setM (h : QX S wb wd F Dd c r ab cap L φ mb M) (i : Nat) (v : Value) : QX S wb (wd.setCell ⟨mb, i, none⟩ v) F Dd c r ab cap L φ mb (put M i v) := by
  have g := grownBy_setCell wd ⟨mb, i, none⟩ v
  have hz : (wd.setCell ⟨mb, i, none⟩ v).heap.size = wd.heap.size := by simp [World.setCell]
  have ho := h.out
  obtain ⟨⟨N, G, pid, P, K, hn⟩, ht, hr, h1, h2⟩ := h
  have hn2 := hn.far g (fun k e hk => by cases e; exact ho hk)
  exact ⟨⟨_, _, _, _, _, hn2.mono (fun i hi => grow_mono (by rw [hz]; exact Nat.le_refl _) hi) (fun _ e => e) hn.dnm (Nat.le_refl _) (fun _ _ e => e)⟩, Touch.setCell ht (.inl (.inr rfl)) _, rowIs_put hr i v, h1, h2⟩

theorem QX.setP (h : QX S wb wd F Dd c r ab cap L φ mb M) (i : Nat) (v : Value) (hi : i ∈ [1, 2, 6, 10, 13, 14, 15, 16, 17, 18, 19, 20, 21, 22, 23]) (hv : Ty (kN i) v) : QX S wb (wd.setCell ⟨F.nb, i, none⟩ v) F Dd c r ab cap L φ mb M := by
  have h0 : NT (grow S wb wd) wd wd F Dd c r ab cap L φ := NT.start h.1
  exact h.next (NG.ofNT (h0.setP i v hi hv))

theorem QX.drewN (h : QX S wb wd F Dd c r ab cap L φ mb M) (q : Nat) : QX S wb (wd.drewN q) F Dd c r ab cap L φ mb M :=
  h.next ((NG.start h.1).drewN q)

/-- a list of pairs stays what it is while the message is filled in -/
theorem Entries.setM {S' : Nat → Prop} {v : Value} (he : Entries S' wd Dd v) (hr : wd.rowIs mb 44 10 M) (i : Nat) (x : Value) : Entries S' (wd.setCell ⟨mb, i, none⟩ x) Dd v := by
  refine he.kept (grownBy_setCell wd ⟨mb, i, none⟩ x) (fun g hg e => ?_)
  cases e
  have h1 := he.tag hg
  rw [tag_row hr] at h1
  cases h1

theorem Head.put {u : UInt8} {M : Nat → Value} (h : Head u M) (i : Nat) (v : Value) (hi : 7 ≤ i) : Head u (put M i v) := by
  obtain ⟨k, rd, wt, su, ho, di, h0, h1, h2, h3, h4, h5, h6, h7⟩ := h
  refine ⟨k, rd, wt, su, ho, di, ?_, ?_, ?_, ?_, ?_, ?_, ?_, h7⟩ <;> (rw [put_other _ _ _ _ (by omega)]; assumption)

/-- 'answer' has filled in the message -/
theorem QX.ans (h : QX S wb wd F Dd c r ab cap L φ mb M) {e : Ending} (k : AnsPost (grow S wb wd) wd F Dd c r ab cap L φ mb M e we) {u : UInt8} (hh : Head u M) (he : Entries (grow S wb wd) wd Dd (M 7)) :
    ∃ M', QX S wb we F Dd c r ab cap L φ mb M' ∧ MsgOK (grow S wb we) we Dd u (aggOf M') := by
  obtain ⟨-, xa, rs, hl, h5, hn, ht, hz, av, rv, hrow, hav, hrv⟩ := k
  have hsz := ht.size
  have hs0 := h.2.1.size
  have hS : ∀ i, grow S wb wd i → grow S wb we i := fun i hi => grow_mono hsz hi
  refine ⟨put (put M 8 av) 9 rv, ⟨hn.monoS hS, ?_, hrow, h.2.2.2⟩, put (put M 8 av) 9 rv, xa, rs, rfl, (hh.put 8 av (by omega)).put 9 rv (by omega), ?_, ?_, ?_, hl, h5, hz, ?_, ?_⟩
  · refine h.2.1.trans (ht.mono fun i hi => ?_)
    rcases hi with ⟨hi, -⟩ | hi
    · rcases hi with hi | hi
      · exact .inl (.inl hi)
      · exact .inr hi
    · exact .inl (.inr hi)
  · rw [put_other _ _ _ _ (by decide), put_other _ _ _ _ (by decide)]
    obtain ⟨xs, h1, h2, h3, h4⟩ := he
    refine ⟨xs, ⟨h1.1, ?_⟩, h2, h3, fun g hg => hS g (h4 g hg)⟩
    rcases h1.2 with e | ⟨g, cp, cur, e1, e2, e3, e4⟩
    · exact .inl e
    · refine .inr ⟨g, cp, cur, e1, e2, (ht.block g (Array.getElem?_eq_some_iff.1 e3).1 ?_).trans e3, e4⟩
      rintro (⟨-, hne⟩ | hne)
      · exact hne (by simp [tag, e3])
      · have hr := tag_row h.2.2.1
        rw [← hne] at hr
        simp [tag, e3] at hr
  · rw [put_other _ _ _ _ (by decide), put_same]; exact own_base hav
  · rw [put_same]; exact own_base hrv
  · rw [put_other _ _ _ _ (by decide), put_same]
    intro g hg
    have := hav.lt g hg
    exact .inr ⟨by omega, this.2⟩
  · rw [put_same]
    intro g hg
    have := hrv.lt g hg
    exact .inr ⟨by omega, this.2⟩
end
end Go.Proofs.Qxb6002353a
