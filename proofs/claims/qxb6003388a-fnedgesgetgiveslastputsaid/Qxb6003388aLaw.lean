import Derived.Test.Qxb6003388aClone
import Derived.OpenShut
import Derived.BigQuiet
import Derived.Deep.QuietTactic
import Derived.WalkSmall
import Derived.Deep.DeepCutAuto
import Derived.Deep.LoopGhost
namespace Go.Proofs.Qxb6003388a
open Go.RowKit Go.Maps

/-- what is told of a slice of integers that came in (the shell's own word) -/
def Row (k : IntKind) (w : World) (a : Option Addr) (len cap : Nat) (zs : List Int) : Prop :=
  (a = none ∧ len = 0 ∧ cap = 0 ∧ zs = []) ∨
  ∃ x, a = some x ∧ len ≤ cap ∧ cap ≤ maxLen ∧ zs.length = cap ∧ (∀ i, i < zs.length → w.cell? (x.add i) = some (.int k (zs.getD i 0))) ∧ ∀ n ∈ zs, (Lit.int k n).wf = true

theorem Row.le {k : IntKind} {w : World} {a : Option Addr} {len cap : Nat} {zs : List Int} (h : Row k w a len cap zs) : len ≤ maxLen := by
  rcases h with ⟨_, h, _, _⟩ | ⟨x, _, h1, h2, _⟩
  · omega
  · omega

theorem Row.at {k : IntKind} {w : World} {a : Option Addr} {len cap : Nat} {zs : List Int} (h : Row k w a len cap zs) (hl : 0 < len) :
    ∃ b off, a = some ⟨b, off, none⟩ ∧ ∀ j, j < len → w.cell? ⟨b, off + j, none⟩ = some (.int k (zs.getD j 0)) := by
  rcases h with ⟨_, h, _, _⟩ | ⟨x, rfl, h1, h2, h3, h4, _⟩
  · omega
  · obtain ⟨b, off, rfl, hc⟩ := ints_at h4 (by omega)
    exact ⟨b, off, rfl, fun j hj => hc j (by omega)⟩

theorem Row.wf {k : IntKind} {w : World} {a : Option Addr} {len cap : Nat} {zs : List Int} (h : Row k w a len cap zs) {i : Nat} (hi : i < len) : (Lit.int k (zs.getD i 0)).wf = true := by
  rcases h with ⟨_, h, _, _⟩ | ⟨x, rfl, h1, h2, h3, h4, h5⟩
  · omega
  · have : i < zs.length := by omega
    rw [List.getD_eq_getElem?_getD, List.getElem?_eq_getElem this]
    exact h5 _ (List.getElem_mem this)

theorem clone6_any {w : World} {a : Option Addr} {len cap : Nat} {zs : List Int} (h : Row .i64 w a len cap zs) (hl : len ≤ 1048576) :
    Calls Try.prog 6 #[.slice a len cap] w (ClPost w .i64 3 len (fun i => zs.getD i 0)) := by
  rcases h with ⟨rfl, rfl, rfl, rfl⟩ | ⟨x, rfl, h1, h2, h3, h4, _⟩
  · exact clone6_nil w 0 _
  · exact clone6 w x len cap _ hl (fun i hi => h4 i (by omega))

theorem clone7_any {w : World} {a : Option Addr} {len cap : Nat} {zs : List Int} (h : Row .u8 w a len cap zs) (hl : len ≤ 1048576) :
    Calls Try.prog 7 #[.slice a len cap] w (ClPost w .u8 5 len (fun i => zs.getD i 0)) := by
  rcases h with ⟨rfl, rfl, rfl, rfl⟩ | ⟨x, rfl, h1, h2, h3, h4, _⟩
  · exact clone7_nil w 0 _
  · exact clone7 w x len cap _ hl (fun i hi => h4 i (by omega))

/-- the row lies as it lay where all blocks below M are as they were -/
theorem Row.below {k : IntKind} {w w' : World} {a : Option Addr} {len cap : Nat} {zs : List Int} (h : Row k w a len cap zs) (hb : Below w.heap.size w w') : Row k w' a len cap zs := by
  rcases h with h | ⟨x, rfl, h1, h2, h3, h4, h5⟩
  · exact .inl h
  · refine .inr ⟨x, rfl, h1, h2, h3, fun i hi => ?_, h5⟩
    have hc := h4 i hi
    have hlt : (x.add i).block < w.heap.size := by
      unfold World.cell? at hc
      cases hb : w.heap[(x.add i).block]? with
      | none => simp [hb] at hc
      | some o => exact (Array.getElem?_eq_some_iff.1 hb).1
    rw [hb.cell hlt]
    exact hc

/-- THE LAW's OWN MEMORY, as it stands ahead of each round -/
structure Inv (w2 w : World) (M n c : Nat) (f : Nat → Int) : Prop where
  rep : Rep w (M + 1) n c f
  row : w.rowIs M 5 n (fun r => .int .u8 (f r))
  bel : Below M w2 w

theorem Rep.of_heap {w w' : World} {eb n c : Nat} {f : Nat → Int} (h : Rep w eb n c f) (e : ∀ k, eb ≤ k → w'.heap[k]? = w.heap[k]?) : Rep w' eb n c f := by
  rcases h with ⟨h1, h2⟩ | ⟨mb, D, h1, h2, ⟨es, cl, h3, h3'⟩, h4⟩ | ⟨db, h1, h2, h3⟩
  · exact .inl ⟨World.rowIs.of_block h1 (e _ (Nat.le_refl _)), h2⟩
  · exact .inr (.inl ⟨mb, D, h1, World.rowIs.of_block h2 (e _ (Nat.le_refl _)), ⟨es, cl, (e mb (by omega)).trans h3, h3'⟩, h4⟩)
  · exact .inr (.inr ⟨db, h1, World.rowIs.of_block h2 (e _ (Nat.le_refl _)), World.rowIs.of_block h3 (e db (by omega))⟩)

theorem Inv.drewN {w2 w : World} {M n c : Nat} {f : Nat → Int} (h : Inv w2 w M n c f) (q : Nat) : Inv w2 (w.drewN q) M n c f :=
  ⟨h.rep.of_heap (fun _ _ => rfl), h.row.of_block rfl, below_drewN h.bel q⟩

/-- the model's own store behind a put -/
theorem Inv.step {w2 w w' : World} {M n c : Nat} {f : Nat → Int} (h : Inv w2 w M n c f) {q : Nat} {e : Int} (hr : Rep w' (M + 1) n (c + 1) (upd f q e)) (hb : Below (M + 1) w w') :
    Inv w2 (w'.setCell ⟨M, q, none⟩ (.int .u8 e)) M n (c + 1) (upd f q e) := by
  refine ⟨hr.of_heap (fun k hk => Below.heap_setCell _ _ _ _ (by simp; omega)), ?_, (h.bel.trans (hb.mono (by omega))).setCell (by simp) _⟩
  refine World.rowIs.congr (World.rowIs.set (h.row.of_block (hb.block M (by omega))) q _) (fun i _ => ?_)
  unfold upd
  split <;> rfl

def Goal (w : World) (e : Ending) (w' : World) : Prop := e = .returned (.bool true) ∧ Below w.heap.size w w'

set_option maxHeartbeats 1000000 in
set_option maxRecDepth 100000 in
theorem law_core (m : Nat) (a1 : Option Addr) (len1 cap1 : Nat) (z1 : List Int) (a2 : Option Addr) (len2 cap2 : Nat) (z2 : List Int) (w : World) (h1 : Row .i64 w a1 len1 cap1 z1) (h2 : Row .u8 w a2 len2 cap2 z2)
    (t1 : len1 ≤ 65536) (t2 : len2 ≤ 1048576) (t3 : len1 * 8 + len2 ≤ 1048576) (t4 : 1 ≤ m) (t5 : m ≤ 65536) :
    Calls Try.prog 3 #[.int .i64 m, .slice a1 len1 cap1, .slice a2 len2 cap2] w (Goal w) := by
  have hl1 := h1.le
  have hl2 := h2.le
  have H1 : Hid (Row .i64 w a1 len1 cap1 z1) := h1
  have H2 : Hid (Row .u8 w a2 len2 cap2 z2) := h2
  clear h1 h2
  have d1 : decide ((65536 : Int) < len1) = false := decide_eq_false (by omega)
  have d2 : decide ((1048576 : Int) < len2) = false := decide_eq_false (by omega)
  have d3 : decide ((1048576 : Int) < (len1 : Int) * 8 + len2) = false := decide_eq_false (by omega)
  have d4 : decide ((m : Int) < 1) = false := decide_eq_false (by omega)
  have d5 : decide ((65536 : Int) < m) = false := decide_eq_false (by omega)
  go_enter Try.func3, Try.ntmps3
  go_upto_if 49 with (go_at_call 5; refine (bytes_any _ _ _ _ _ _ _ _ hl1 hl2).mono ?_; rintro e w' ⟨r, rfl, hw⟩; have hw2 := hw.symm; clear hw; subst hw2; cases r)
  · go_ret
    exact ⟨rfl, Below.refl _ _⟩
  go_cut [7] (fun s wc => ∃ k : Nat, k ≤ len1 ∧ k ≤ len2 ∧ s = .int .i64 k ∧ w = wc)
  case first =>
    by_cases hlt : len2 < len1
    · go_wp2_with fail
      go_meet
      case rel => exact ⟨len2, by omega, by omega, rfl, rfl⟩
    · go_wp2
      go_meet
      case rel => exact ⟨len1, by omega, by omega, rfl, rfl⟩
  case rest =>
    obtain ⟨k, hk1, hk2, rfl, rfl⟩ := hcut
    by_cases t6 : 33554432 < wrap64 ((k : Int) * (m : Int))
    · go_wp2_with fail
      go_ret
      exact ⟨rfl, Below.refl _ _⟩
    have d6 : decide (33554432 < wrap64 ((k : Int) * (m : Int))) = false := decide_eq_false t6
    clear t6
    go_wp2_with fail
    go_loop [8] (fun x => ∃ i : Nat, i ≤ k ∧ x = .int .i64 i ∧ ∀ j, j < i → 0 ≤ z1.getD j 0 ∧ z1.getD j 0 < m) (fun x => k - (intOf x).toNat)
    case atStart => exact ⟨0, Nat.zero_le _, rfl, fun j hj => by omega⟩
    case round =>
      obtain ⟨i, hi, rfl, hin⟩ := hrel
      have HI : Hid (∀ j, j < i → 0 ≤ z1.getD j 0 ∧ z1.getD j 0 < m) := hin
      clear hin
      by_cases hlt : i < k
      · obtain ⟨b, off, rfl, hc⟩ := H1.out.at (by omega)
        have hci := hc i (by omega)
        clear hc
        obtain ⟨y, hy⟩ : ∃ y, y = z1.getD i 0 := ⟨_, rfl⟩
        rw [← hy] at hci
        have HY : Hid (y = z1.getD i 0) := hy
        clear hy
        go_wp2_with fail
        · go_ret
          exact ⟨rfl, Below.refl _ _⟩
        · go_round
          case rel =>
            refine ⟨i + 1, by omega, by go_num, fun j hj => ?_⟩
            by_cases e : j = i
            · subst e
              rw [← HY.out]
              assumption
            · exact HI.out j (by omega)
          case measure => simp [intOf]; omega
        · go_ret
          exact ⟨rfl, Below.refl _ _⟩
      · have hik : i = k := by omega
        subst hik
        have hmk := fun w => run_make_row' (P := Try.prog) 23 5 (.int .u8 0) 1 Try.underlying23 info5 rfl .i64 .i64 m (by omega) (by omega) w
        go_wp2_with fail
        refine (clone6_any H1.out (by omega)).mono ?_
        rintro e w1 ⟨p1, q1, rfl, hcl1, hb1⟩
        go_wp2_with fail
        refine (clone7_any (H2.out.below hb1) (by omega)).mono ?_
        rintro e w2 ⟨p2, q2, rfl, hcl2, hb2⟩
        have HC1 : Hid (Cloned w w1 .i64 3 len1 (fun i => z1.getD i 0) p1) := hcl1
        have HC2 : Hid (Cloned w1 w2 .u8 5 len2 (fun i => z2.getD i 0) p2) := hcl2
        clear hcl1 hcl2
        go_wp2_with fail
        refine (new_any _).mono ?_
        rintro e w3 ⟨rfl, rfl⟩
        go_wp2_with fail
        have HB1 : Hid (Below w.heap.size w w1) := hb1
        have HB2 : Hid (Below w1.heap.size w1 w2) := hb2
        have hz1 := hb1.size
        have hz2 := hb2.size
        clear hb1 hb2
        go_loopw [11] (fun x wr => ∃ (j : Nat) (f : Nat → Int), j ≤ i ∧ x = .int .i64 j ∧ Inv w2 wr w2.heap.size m j f) (fun x _ => i - (intOf x).toNat)
        case atStart =>
          refine ⟨0, fun _ => 0, Nat.zero_le _, rfl, ?_, ?_, ?_⟩
          · have := Rep.new (w2.alloc (.cells (madeCells #[.int .u8 0] m) 5)) m
            simpa using this
          · exact World.rowIs.alloc (World.rowIs_made w2 (.int .u8 0) m 5) _
          · exact ((Below.refl _ _).alloc (Nat.le_refl _) _).alloc (by simp) _
        case round =>
          obtain ⟨j, f, hj, rfl, hinv⟩ := hrel
          by_cases hlt : j < i
          · obtain ⟨g1, hp1, hg1, hr1⟩ := HC1.out (by omega)
            subst hp1
            obtain ⟨g2, hp2, hg2, hr2⟩ := HC2.out (by omega)
            subst hp2
            have hg1' := World.rowIs.lt hr1
            have hg2' := World.rowIs.lt hr2
            have b1 : wr.heap[g1]? = w1.heap[g1]? := (hinv.bel.block g1 (by omega)).trans (HB2.out.block g1 hg1')
            have b2 : wr.heap[g2]? = w2.heap[g2]? := hinv.bel.block g2 (by omega)
            have c1 : wr.cell? ⟨g1, j, none⟩ = some (.int .i64 (z1.getD j 0)) := World.rowIs.cell (World.rowIs.of_block hr1 b1) (i := j) (by omega)
            have c2 : wr.cell? ⟨g2, j, none⟩ = some (.int .u8 (z2.getD j 0)) := World.rowIs.cell (World.rowIs.of_block hr2 b2) (i := j) (by omega)
            have hq := HI.out j hlt
            obtain ⟨qn, hqn⟩ : ∃ qn : Nat, z1.getD j 0 = qn := ⟨(z1.getD j 0).toNat, by omega⟩
            obtain ⟨ev, hev⟩ : ∃ ev, z2.getD j 0 = ev := ⟨_, rfl⟩
            have hwf := H2.out.wf (i := j) (by omega)
            rw [hqn] at hq c1
            rw [hev] at hwf c2
            clear hqn hev b1 b2 hr1 hr2
            have hqm : qn < m := by omega
            clear hq
            have HIN : Hid (Inv w2 wr w2.heap.size m j f) := hinv
            clear hinv
            go_wp2_with fail
            refine (zput_any wr (w2.heap.size + 1) m j f qn ev hwf hqm t5 (by omega) HIN.out.rep).mono ?_
            rintro e w5 ⟨rfl, hrep, hbel⟩
            have hrow5 := HIN.out.row.of_block (hbel.block w2.heap.size (by omega))
            have cm := World.rowIs.cell hrow5 hqm
            have fm := World.rowIs.frozen hrow5 qn
            have HIN2 : Hid (Inv w2 (w5.setCell ⟨w2.heap.size, qn, none⟩ (.int .u8 ev)) w2.heap.size m (j + 1) (upd f qn ev)) := HIN.out.step hrep hbel
            clear hrow5 hrep hbel
            go_wp2_with fail
            go_loopw [14] (fun x wy => ∃ r : Nat, r ≤ m ∧ x = .int .i64 r ∧ Inv w2 wy w2.heap.size m (j + 1) (upd f qn ev)) (fun x _ => m - (intOf x).toNat)
            case atStart => exact ⟨0, Nat.zero_le _, rfl, HIN2.out⟩
            case round =>
              obtain ⟨r, hr, rfl, hinv⟩ := hrel
              by_cases hrm : r < m
              · have cr := World.rowIs.cell hinv.row hrm
                have HG : ∀ q : Nat, Calls Try.prog 10 #[.pointer (some ⟨w2.heap.size + 1, 0, none⟩), .int .i64 r] (wr.drewN q) fun e w' => e = .returned (.int .u8 (upd f qn ev r)) ∧ w' = wr.drewN q :=
                  fun q => zget_any _ (w2.heap.size + 1) m (j + 1) _ r hrm t5 (hinv.drewN q).rep
                have HGH := HG
                have HIN3 : Hid (Inv w2 wr w2.heap.size m (j + 1) (upd f qn ev)) := hinv
                clear hinv HG
                generalize upd f qn ev r = y at cr HGH
                go_wp2_with fail
                go_quiet ((go_at_call 10; exact Calls.quiet_of_same (HGH _)))
                go_wp2_with fail
                go_roundw
                case rel => exact ⟨r + 1, by omega, by go_num, HIN3.out.drewN _⟩
                case measure => simp [intOf]; omega
              · have HIN3 : Hid (Inv w2 wr w2.heap.size m (j + 1) (upd f qn ev)) := hinv
                clear hinv
                go_wp2_with fail
                go_roundw
                case rel => exact ⟨j + 1, _, by omega, by go_num, HIN3.out⟩
                case measure => simp [intOf]; omega
          · go_wp2_with fail
            go_loopw [15] (fun x wy => ∃ r : Nat, r ≤ m ∧ x = .int .i64 r ∧ Inv w2 wy w2.heap.size m j f) (fun x _ => m - (intOf x).toNat)
            case atStart => exact ⟨0, Nat.zero_le _, rfl, hinv⟩
            case round =>
              clear hinv
              obtain ⟨r, hr, rfl, hinv⟩ := hrel
              by_cases hrm : r < m
              · have cr := World.rowIs.cell hinv.row hrm
                have HGH : ∀ q : Nat, Calls Try.prog 10 #[.pointer (some ⟨w2.heap.size + 1, 0, none⟩), .int .i64 r] (wr.drewN q) fun e w' => e = .returned (.int .u8 (f r)) ∧ w' = wr.drewN q :=
                  fun q => zget_any _ (w2.heap.size + 1) m j _ r hrm t5 (hinv.drewN q).rep
                have HIN3 : Hid (Inv w2 wr w2.heap.size m j f) := hinv
                clear hinv
                generalize f r = y at cr HGH
                go_wp2_with fail
                go_quiet ((go_at_call 10; exact Calls.quiet_of_same (HGH _)))
                go_wp2_with fail
                go_roundw
                case rel => exact ⟨r + 1, by omega, by go_num, HIN3.out.drewN _⟩
                case measure => simp [intOf]; omega
              · have HIN3 : Hid (Inv w2 wr w2.heap.size m j f) := hinv
                clear hinv
                go_wp2_with fail
                go_ret
                exact ⟨rfl, (HB1.out.trans (HB2.out.mono hz1)).trans (HIN3.out.bel.mono (by omega))⟩

set_option maxHeartbeats 1000000 in
theorem law_any (n : Int) (a1 : Option Addr) (len1 cap1 : Nat) (z1 : List Int) (a2 : Option Addr) (len2 cap2 : Nat) (z2 : List Int) (w : World) (hn0 : (Lit.int .i64 n).wf = true) (h1 : Row .i64 w a1 len1 cap1 z1) (h2 : Row .u8 w a2 len2 cap2 z2) :
    Calls Try.prog 3 #[.int .i64 n, .slice a1 len1 cap1, .slice a2 len2 cap2] w (Goal w) := by
  have hl1 := h1.le
  have hl2 := h2.le
  have hl1' := hl1
  have hl2' := hl2
  unfold maxLen at hl1' hl2'
  by_cases t1 : (65536 : Int) < len1
  · clear h1 h2
    go_enter Try.func3, Try.ntmps3
    go_wp2_with (go_at_call 5; refine (bytes_any _ _ _ _ _ _ _ _ hl1 hl2).mono ?_; rintro e w' ⟨r, rfl, rfl⟩; cases r)
    all_goals (go_ret; exact ⟨rfl, Below.refl _ _⟩)
  by_cases t2 : (1048576 : Int) < len2
  · clear h1 h2
    go_enter Try.func3, Try.ntmps3
    go_wp2_with (go_at_call 5; refine (bytes_any _ _ _ _ _ _ _ _ hl1 hl2).mono ?_; rintro e w' ⟨r, rfl, rfl⟩; cases r)
    all_goals (go_ret; exact ⟨rfl, Below.refl _ _⟩)
  by_cases t3 : (1048576 : Int) < len1 * 8 + len2
  · clear h1 h2
    go_enter Try.func3, Try.ntmps3
    go_wp2_with (go_at_call 5; refine (bytes_any _ _ _ _ _ _ _ _ hl1 hl2).mono ?_; rintro e w' ⟨r, rfl, rfl⟩; cases r)
    all_goals (go_ret; exact ⟨rfl, Below.refl _ _⟩)
  by_cases t4 : n < 1
  · clear h1 h2
    go_enter Try.func3, Try.ntmps3
    go_wp2_with (go_at_call 5; refine (bytes_any _ _ _ _ _ _ _ _ hl1 hl2).mono ?_; rintro e w' ⟨r, rfl, rfl⟩; cases r)
    all_goals (go_ret; exact ⟨rfl, Below.refl _ _⟩)
  by_cases t5 : 65536 < n
  · clear h1 h2
    go_enter Try.func3, Try.ntmps3
    go_wp2_with (go_at_call 5; refine (bytes_any _ _ _ _ _ _ _ _ hl1 hl2).mono ?_; rintro e w' ⟨r, rfl, rfl⟩; cases r)
    all_goals (go_ret; exact ⟨rfl, Below.refl _ _⟩)
  obtain ⟨m, rfl⟩ : ∃ m : Nat, n = m := ⟨n.toNat, by omega⟩
  exact law_core m a1 len1 cap1 z1 a2 len2 cap2 z2 w h1 h2 (by omega) (by omega) (by omega) (by omega) (by omega)
end Go.Proofs.Qxb6003388a
