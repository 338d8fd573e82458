import Derived.Test.Qxb6003388aRep
namespace Go.Proofs.Qxb6003388a
open Go.RowKit Go.Maps

/-- the edge e put on child q -/
def upd (f : Nat → Int) (q : Nat) (e : Int) : Nat → Int := fun r => if r = q then e else f r

theorem Reads.put {n : Nat} {D : DataW Unit} {f : Nat → Int} (hD : IsMap D) (h : Reads n D f) {q : Nat} (hq : q < n) (e : Int) : Reads n (D.put (.int .i64 q) (.lit (.int .u8 e))) (upd f q e) := by
  constructor
  · intro r hr
    unfold upd
    by_cases hrq : r = q
    · subst hrq
      rw [if_pos rfl]
      exact atKey_put_same hD (k := .int .i64 r) trivial _ _
    · rw [if_neg hrq, atKey_put_other (by simp only [ne_eq, Lit.int.injEq, true_and]; omega)]
      exact h.1 r hr
  · intro kl hk
    by_cases hkq : kl = .int .i64 q
    · exact ⟨q, hq, hkq⟩
    · rw [has_put_other hkq] at hk
      exact h.2 kl hk

theorem Reads.nil (n : Nat) {f : Nat → Int} (h : ∀ r, r < n → f r = 0) : Reads n (.map []) f :=
  ⟨fun r hr => by rw [h r hr]; rfl, fun kl hk => by simp [Maps.has] at hk⟩

theorem Two.f {w : World} {eb : Nat} {m : Option Nat} {d : Value} (h : Two w eb m d) (i : Nat) : w.frozen? ⟨eb, i, none⟩ = false := World.rowIs.frozen h i
theorem Two.set0 {w : World} {eb : Nat} {m : Option Nat} {d : Value} (h : Two w eb m d) (m' : Option Nat) : Two (w.setCell ⟨eb, 0, none⟩ (.map m')) eb m' d :=
  World.rowIs.congr (World.rowIs.set h 0 _) (fun i _ => by split <;> simp_all)
theorem Two.set1 {w : World} {eb : Nat} {m : Option Nat} {d : Value} (h : Two w eb m d) (d' : Value) : Two (w.setCell ⟨eb, 1, none⟩ d') eb m d' :=
  World.rowIs.congr (World.rowIs.set h 1 _) (fun i hi => by
    by_cases e : i = 1
    · subst e; simp
    · have : i = 0 := by omega
      subst this; simp)
theorem Two.kept {w w' : World} {eb : Nat} {m : Option Nat} {d : Value} {row : Option Nat} (h : Two w eb m d) (hg : w.grownBy w' row) (hne : some eb ≠ row) : Two w' eb m d :=
  World.rowIs.of_block h (hg.block eb (World.rowIs.lt h) hne)
theorem rowIs_kept {w w' : World} {b t n : Nat} {f : Nat → Value} {row : Option Nat} (h : w.rowIs b t n f) (hg : w.grownBy w' row) (hne : some b ≠ row) : w'.rowIs b t n f :=
  World.rowIs.of_block h (hg.block b (World.rowIs.lt h) hne)

set_option maxHeartbeats 400000 in
theorem put2 (w : World) (eb n c db : Nat) (f : Nat → Int) (q : Nat) (e : Int) (hq : q < n) (_hn : n ≤ 65536) (h : Dense w eb n db f) :
    Calls Try.prog 17 #[.pointer (some ⟨eb, 0, none⟩), .int .i64 q, .int .u8 e, .int .i64 n] w fun r w' => r = .returned (.tuple #[]) ∧ Rep w' eb n c (upd f q e) ∧ Below eb w w' := by
  have h' := h
  obtain ⟨hlt, h2, hd⟩ := h
  have c0 := h2.c0
  have c1 := h2.c1
  have cr := World.rowIs.cell hd hq
  have fr := World.rowIs.frozen hd q
  have HH : Hid (Dense w eb n db f) := h'
  clear hd h2 h'
  have hn1 := fun w => run_neq_slice_nil_any (P := Try.prog) w 42 46 (some ⟨db, 0, none⟩) n n 0 0 Try.underlying42
  have hn2 := fun w => Lib.run_eql_slice_nil (P := Try.prog) w 42 46 (some ⟨db, 0, none⟩) n n 0 0 Try.underlying42
  go_enter Try.func17, Try.ntmps17
  go_wp2
  refine bodyPost_ret (results_none rfl _ _ _) rfl ?_
  obtain ⟨_, h2, hd⟩ := HH.out
  refine ⟨rfl, .inr (.inr ⟨db, hlt, World.rowIs.setOther h2 (by simp; omega) _, ?_⟩), (Below.refl _ _).setCell (by simp; omega) _⟩
  exact World.rowIs.congr (World.rowIs.set hd q _) (fun i _ => by unfold upd; split <;> rfl)

set_option maxHeartbeats 400000 in
theorem put0 (w : World) (eb n c : Nat) (f : Nat → Int) (q : Nat) (e : Int) (he : (Lit.int .u8 e).wf = true) (hq : q < n) (hn : n ≤ 65536) (h : Sparse0 w eb n f) :
    Calls Try.prog 17 #[.pointer (some ⟨eb, 0, none⟩), .int .i64 q, .int .u8 e, .int .i64 n] w fun r w' => r = .returned (.tuple #[]) ∧ Rep w' eb n (c + 1) (upd f q e) ∧ Below eb w w' := by
  have h' := h
  obtain ⟨h2, hf⟩ := h
  have c0 := h2.c0
  have c1 := h2.c1
  have fr := h2.f 0
  have hlt : eb < w.heap.size := World.rowIs.lt h2
  have HH : Hid (Sparse0 w eb n f) := h'
  clear h2 h' hf
  have hn1 := fun w => run_neq_slice_nil_any (P := Try.prog) w 42 46 none 0 0 0 0 Try.underlying42
  have hn2 := fun w => Lib.run_eql_slice_nil (P := Try.prog) w 42 46 none 0 0 0 0 Try.underlying42
  have hn3 := fun w ty => len_nil (P := Try.prog) (w := w) Try.underlying41 ty
  have hn4 := fun w => run_eql_map_nil (P := Try.prog) w 41 3 46 none Try.underlying41
  have hmm := @run_makeMap Try.prog
  have hown : ((w.setCell ⟨eb, 0, none⟩ (.map (some w.heap.size))).alloc (.map #[] 0)).ownsMap (H := Unit) Try.prog 3 (plainElem Try.prog 46) w.heap.size 0 (.map []) := by
    have := World.ownsMap_made (H := Unit) (w.setCell ⟨eb, 0, none⟩ (.map (some w.heap.size))) Try.prog 3 (plainElem Try.prog 46)
    rwa [show (w.setCell ⟨eb, 0, none⟩ (.map (some w.heap.size))).heap.size = w.heap.size from by simp [World.setCell]] at this
  go_enter Try.func17, Try.ntmps17
  go_wp2_with (first
    | (at_mapUpdate; refine wpList_mapUpdate_own _ rfl _ _ _ 41 rfl 3 46 law3 Try.underlying41 _ w.heap.size 0 _ rfl hown (by unfold maxLen; omega) _ _ _ rfl rfl (keyOf_int_mk Try.underlying3 (wf64 hq hn)) _ [] (plainElem_int Try.underlying46 he) ?_; intro w2 hout2 hg2)
    | go_in)
  go_end0
  obtain ⟨h2, hf⟩ := HH.out
  refine ⟨rfl, .inr (.inl ⟨w.heap.size, _, hlt, ?_, hout2.mono (by omega), Reads.put isMap_empty (Reads.nil n hf) hq e⟩), ?_⟩
  · exact Two.kept (World.rowIs.alloc (Two.set0 h2 _) _) hg2 (by simp; omega)
  · exact (((Below.refl _ _).setCell (by simp) _).alloc (by simp [World.setCell]; omega) _).grown hg2 (by simp [World.setCell]; omega) (fun k hk => by cases hk; omega)

set_option maxHeartbeats 400000 in
theorem put1 (w : World) (eb n c mb : Nat) (D : DataW Unit) (f : Nat → Int) (q : Nat) (e : Int) (he : (Lit.int .u8 e).wf = true) (hq : q < n) (hn : n ≤ 65536) (hc : c < 1000000) (h : Sparse w eb n c mb D f) (hs : Maps.size D * 16 < n) :
    Calls Try.prog 17 #[.pointer (some ⟨eb, 0, none⟩), .int .i64 q, .int .u8 e, .int .i64 n] w fun r w' => r = .returned (.tuple #[]) ∧ Rep w' eb n (c + 1) (upd f q e) ∧ Below eb w w' := by
  have h' := h
  obtain ⟨hlt, h2, hown, hD⟩ := h
  have c0 := h2.c0
  have c1 := h2.c1
  have HH : Hid (Sparse w eb n c mb D f) := h'
  clear h2 h' hD
  have hn1 := fun w => run_neq_slice_nil_any (P := Try.prog) w 42 46 none 0 0 0 0 Try.underlying42
  have hn2 := fun w => Lib.run_eql_slice_nil (P := Try.prog) w 42 46 none 0 0 0 0 Try.underlying42
  have hn3 := fun ty => hown.len Try.underlying41 ty
  have hn4 := fun w => run_eql_map_nil (P := Try.prog) w 41 3 46 (some mb) Try.underlying41
  go_enter Try.func17, Try.ntmps17
  go_wp2_with (first
    | (at_mapUpdate; refine wpList_mapUpdate_own _ rfl _ _ _ 41 rfl 3 46 law3 Try.underlying41 _ mb c _ rfl hown (by unfold maxLen; omega) _ _ _ rfl rfl (keyOf_int_mk Try.underlying3 (wf64 hq hn)) _ [] (plainElem_int Try.underlying46 he) ?_; intro w2 hout2 hg2)
    | go_in)
  go_end0
  obtain ⟨_, h2, hown, hD⟩ := HH.out
  refine ⟨rfl, .inr (.inl ⟨mb, _, hlt, Two.kept h2 hg2 (by simp; omega), hout2, Reads.put hown.isMap hD hq e⟩), ?_⟩
  exact (Below.refl _ _).grown hg2 (Nat.le_of_lt (World.rowIs.lt h2)) (fun k hk => by cases hk; omega)

theorem info46 : (Try.prog.info? 46).map (fun i => (i.zero, i.size, i.bytes)) = some (some (.int .u8 0), 1, 1) := by kernel_rfl

/-- the part of f that is no longer to come -/
def laid (f : Nat → Int) (left : Lit → Bool) : Nat → Value := fun r => .int .u8 (if left (.int .i64 r) then 0 else f r)

set_option maxHeartbeats 1000000 in
theorem put3 (w : World) (eb n c mb : Nat) (D : DataW Unit) (f : Nat → Int) (q : Nat) (e : Int) (hq : q < n) (hn : n ≤ 65536) (h : Sparse w eb n c mb D f) (hs : n ≤ Maps.size D * 16) (hc : c < 1000000) :
    Calls Try.prog 17 #[.pointer (some ⟨eb, 0, none⟩), .int .i64 q, .int .u8 e, .int .i64 n] w fun r w' => r = .returned (.tuple #[]) ∧ Rep w' eb n c (upd f q e) ∧ Below eb w w' := by
  have h' := h
  obtain ⟨hlt, h2, hown, hD⟩ := h
  have c0 := h2.c0
  have c1 := h2.c1
  have f1 := h2.f 1
  have hlt2 : eb < w.heap.size := World.rowIs.lt h2
  have hsz := hown.size_le
  have hmb := hown.lt
  have HH : Hid (Sparse w eb n c mb D f) := h'
  clear h2 h' hD
  have hn1 := fun wx => run_neq_slice_nil_any (P := Try.prog) wx 42 46 (some ⟨w.heap.size, 0, none⟩) n n 0 0 Try.underlying42
  have hn2 := fun w => Lib.run_eql_slice_nil (P := Try.prog) w 42 46 none 0 0 0 0 Try.underlying42
  have hn3 := fun ty => hown.len Try.underlying41 ty
  have hmk := fun w => run_make_row' (P := Try.prog) 42 46 (.int .u8 0) 1 Try.underlying42 info46 rfl .i64 .i64 n (by omega) (by omega) w
  have e0 : (w.setCell ⟨eb, 1, none⟩ (.slice (some ⟨w.heap.size, 0, none⟩) n n)).heap.size = w.heap.size := by simp [World.setCell]
  have e1 : ((w.setCell ⟨eb, 1, none⟩ (.slice (some ⟨w.heap.size, 0, none⟩) n n)).alloc (.cells (madeCells #[.int .u8 0] n) 46)).heap.size = w.heap.size + 1 := by simp
  have hown1 : ((w.setCell ⟨eb, 1, none⟩ (.slice (some ⟨w.heap.size, 0, none⟩) n n)).alloc (.cells (madeCells #[.int .u8 0] n) 46)).ownsMap Try.prog 3 (plainElem Try.prog 46) mb c D :=
    World.ownsMap.alloc (World.ownsMap.setCell hown (by simp; omega) _) _
  have hdec : decide ((n : Int) ≤ (Maps.size D : Int) * 16) = true := decide_eq_true (by omega)
  go_enter Try.func17, Try.ntmps17
  go_wp2_with (first
    | (at_range; refine wpList_range_own _ rfl _ 41 rfl 3 46 law3 Try.underlying41 _ mb c D rfl hown1 ?_; intro w0 hrg0 hg0 hs0)
    | go_in)
  go_frame
  rw [e1] at hrg0 hs0 ⊢
  go_loopw [8, 9] (fun _ _ wr => ∃ (left : Lit → Bool) (cnt : Nat), wr.ranges Try.prog 3 (plainElem Try.prog 46) mb (w.heap.size + 1) c D left cnt ∧ (∀ kl, left kl = true → Maps.has D kl = true) ∧
      Two wr eb (some mb) (.slice (some ⟨w.heap.size, 0, none⟩) n n) ∧ wr.rowIs w.heap.size 46 n (laid f left) ∧ Below eb w wr)
    (fun _ _ wr => wr.rangeLeft mb (w.heap.size + 1))
  case atStart =>
    obtain ⟨_, h2, _, hD⟩ := HH.out
    refine ⟨_, _, hrg0, fun _ h => h, Two.kept (World.rowIs.alloc (Two.set1 h2 _) _) hg0 (by simp), ?_, ?_⟩
    · refine rowIs_kept (World.rowIs.congr ((by have := World.rowIs_made (w.setCell ⟨eb, 1, none⟩ (.slice (some ⟨w.heap.size, 0, none⟩) n n)) (.int .u8 0) n 46; rw [e0] at this; exact this)) ?_) hg0 (by simp)
      intro i hi
      unfold laid
      cases hh : Maps.has D (.int .i64 i)
      · have h1 := hD.1 i hi
        rw [atKey_of_not_has hh] at h1
        simp only [DataW.lit.injEq, Lit.int.injEq, true_and] at h1
        simp [← h1]
      · simp
    · exact (((Below.refl _ _).setCell (by simp) _).alloc (by rw [e0]; omega) _).grown hg0 (by rw [e1]; omega) (fun k hk => by cases hk)
  case round =>
    obtain ⟨left, cnt, hrg, hsub, hT, hR, hB⟩ := hrel
    have HHS : Hid (∀ kl, left kl = true → Maps.has D kl = true) := hsub
    clear hsub
    go_wp2_with (first
      | (at_next; refine wpList_next_ranges_ii _ rfl _ rfl 3 46 .i64 .u8 law3 Try.underlying3 Try.underlying46 mb (w.heap.size + 1) c _ _ _ rfl hrg ?_ ?_)
      | go_in)
    · intro hc0 hl0
      have hRf : wr.rowIs w.heap.size 46 n (fun i => .int .u8 (f i)) := World.rowIs.congr hR (fun i _ => by simp [laid, hl0])
      have d0 := hT.c0
      have d1 := hT.c1
      have g0 := hT.f 0
      have cq := World.rowIs.cell hRf hq
      have fq := World.rowIs.frozen hRf q
      have HR : Hid (Two wr eb (some mb) (.slice (some ⟨w.heap.size, 0, none⟩) n n) ∧ wr.rowIs w.heap.size 46 n (fun i => .int .u8 (f i))) := ⟨hT, hRf⟩
      clear hR hT hRf
      go_wp2
      refine bodyPost_ret (results_none rfl _ _ _) rfl ?_
      obtain ⟨hT, hRf⟩ := HR.out
      refine ⟨rfl, .inr (.inr ⟨w.heap.size, hlt2, World.rowIs.setOther (Two.set0 hT _) (by simp; omega) _, ?_⟩), (hB.setCell (by simp) _).setCell (by simp; omega) _⟩
      exact World.rowIs.congr (World.rowIs.set (World.rowIs.setOther hRf (by simp; omega) _) q _) (fun i _ => by unfold upd; split <;> rfl)
    · intro x v w1 cnt1 hwx hwc hlx hat hrg1 hlt1 hg1 hs1 hen
      obtain ⟨_, _, _, hD⟩ := HH.out
      obtain ⟨r, hr, hxr⟩ := hD.2 _ (HHS.out _ hlx)
      simp only [Lit.int.injEq, true_and] at hxr
      subst hxr
      have hv := (hat (.lit (.int .u8 0))).symm.trans (hD.1 r hr)
      simp only [DataW.lit.injEq, Lit.int.injEq, true_and] at hv
      subst hv
      have hT1 : Two w1 eb (some mb) (.slice (some ⟨w.heap.size, 0, none⟩) n n) := Two.kept hT hg1 (by simp; omega)
      have hR1 := rowIs_kept hR hg1 (by simp)
      have d1 := hT1.c1
      have cq := World.rowIs.cell hR1 hr
      have fq := World.rowIs.frozen hR1 r
      have HR : Hid (Two w1 eb (some mb) (.slice (some ⟨w.heap.size, 0, none⟩) n n) ∧ w1.rowIs w.heap.size 46 n (laid f left)) := ⟨hT1, hR1⟩
      clear hR hT hT1 hR1 hD hat
      go_wp2
      have hgs : w1.grownBy (w1.setCell ⟨w.heap.size, r, none⟩ (.int .u8 (f r))) (some w.heap.size) := ⟨rfl, rfl, rfl, by simp [World.setCell], fun k _ hk => Below.heap_setCell _ _ _ _ (by simp at hk ⊢; exact hk)⟩
      have hrg2 := hrg1.kept hgs (by simp; omega) (by simp)
      go_roundw
      case rel =>
        obtain ⟨hT1, hR1⟩ := HR.out
        refine ⟨_, cnt1, hrg2, fun kl hk => HHS.out kl (by simp at hk; exact hk.1), World.rowIs.setOther hT1 (by simp; omega) _, ?_, (hB.grown hg1 (by have := hB.size; omega) (fun k hk => by cases hk; omega)).setCell (by simp; omega) _⟩
        refine World.rowIs.congr (World.rowIs.set hR1 r _) (fun i _ => ?_)
        unfold laid
        by_cases hir : i = r
        · subst hir
          simp [Lit.sameKey]
        · have : (Lit.int .i64 (i : Int)).sameKey (.int .i64 r) = false := sameKey_ne (by simp; omega)
          simp [hir, this]
      case measure => rw [hrg2.left_eq, hrg.left_eq]; exact hlt1

theorem Rep.more {w : World} {eb n c : Nat} {f : Nat → Int} (h : Rep w eb n c f) : Rep w eb n (c + 1) f := by
  rcases h with h | ⟨mb, D, h1, h2, h3, h4⟩ | h
  · exact .inl h
  · exact .inr (.inl ⟨mb, D, h1, h2, h3.mono (by omega), h4⟩)
  · exact .inr (.inr h)

theorem put_any (w : World) (eb n c : Nat) (f : Nat → Int) (q : Nat) (e : Int) (he : (Lit.int .u8 e).wf = true) (hq : q < n) (hn : n ≤ 65536) (hc : c < 1000000) (h : Rep w eb n c f) :
    Calls Try.prog 17 #[.pointer (some ⟨eb, 0, none⟩), .int .i64 q, .int .u8 e, .int .i64 n] w fun r w' => r = .returned (.tuple #[]) ∧ Rep w' eb n (c + 1) (upd f q e) ∧ Below eb w w' := by
  rcases h with h | ⟨mb, D, h⟩ | ⟨db, h⟩
  · exact put0 w eb n c f q e he hq hn h
  · by_cases hs : Maps.size D * 16 < n
    · exact put1 w eb n c mb D f q e he hq hn hc h hs
    · exact (put3 w eb n c mb D f q e hq hn h (by omega) hc).mono fun r w' ⟨h1, h2, h3⟩ => ⟨h1, h2.more, h3⟩
  · exact (put2 w eb n c db f q e hq hn h).mono fun r w' ⟨h1, h2, h3⟩ => ⟨h1, h2.more, h3⟩

theorem zput_any (w : World) (eb n c : Nat) (f : Nat → Int) (q : Nat) (e : Int) (he : (Lit.int .u8 e).wf = true) (hq : q < n) (hn : n ≤ 65536) (hc : c < 1000000) (h : Rep w eb n c f) :
    Calls Try.prog 9 #[.pointer (some ⟨eb, 0, none⟩), .int .i64 q, .int .u8 e, .int .i64 n] w fun r w' => r = .returned (.tuple #[]) ∧ Rep w' eb n (c + 1) (upd f q e) ∧ Below eb w w' := by
  have HC := put_any w eb n c f q e he hq hn hc h
  clear h
  go_enter Try.func9, Try.ntmps9
  go_wp2_with (go_at_call 17; refine HC.mono ?_; rintro r w' ⟨rfl, h1, h2⟩)
  go_end0
  exact ⟨rfl, h1, h2⟩

theorem new_any (w : World) :
    Calls Try.prog 8 #[] w fun r w' => r = .returned (.pointer (some ⟨w.heap.size, 0, none⟩)) ∧ w' = w.alloc (.cells #[.map none, .slice none 0 0] 44) := by
  go_enter Try.func8, Try.ntmps8
  go_wp2
  go_ret
  exact ⟨rfl, rfl⟩

theorem Rep.new (w : World) (n : Nat) : Rep (w.alloc (.cells #[.map none, .slice none 0 0] 44)) w.heap.size n 0 (fun _ => 0) := by
  refine .inl ⟨?_, fun _ _ => rfl⟩
  refine World.rowIs_alloc w #[.map none, .slice none 0 0] 44 _ ?_
  intro i hi
  have : i = 0 ∨ i = 1 := by simp at hi; omega
  rcases this with rfl | rfl <;> simp

set_option maxHeartbeats 400000 in
theorem bytes_any (n : Int) (a : Option Addr) (la ca : Nat) (b : Option Addr) (lb cb : Nat) (w : World) (ha : la ≤ maxLen) (hb : lb ≤ maxLen) :
    Calls Try.prog 5 #[.int .i64 n, .slice a la ca, .slice b lb cb] w fun e w' => ∃ r : Bool, e = .returned (.bool r) ∧ w' = w := by
  unfold maxLen at ha hb
  go_enter Try.func5, Try.ntmps5
  go_wp2
  all_goals (go_ret; exact ⟨_, rfl, rfl⟩)
end Go.Proofs.Qxb6003388a
