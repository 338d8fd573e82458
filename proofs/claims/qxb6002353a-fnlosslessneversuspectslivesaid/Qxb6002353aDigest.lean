import Derived.Test.Qxb6002353aClose
import Derived.Lib.AppendStr
import Derived.OpenShut
import Derived.Shelf.Bin.AppendUvarint
namespace Go.Proofs.Qxb6002353a
open Go.RowKit Go.Maps

theorem info5 : (Try.prog.info? 5).map (fun i => (i.zero, i.size, i.bytes)) = some (some (.int .u8 0), 1, 1) := by kernel_rfl

/-- rows of bytes from block B on -/
def TB (B : Nat) (w : World) : Nat → Prop := fun b => B ≤ b ∧ tag w b = 6
theorem tag_lt {w : World} {b : Nat} (h : tag w b ≠ 0) : b < w.heap.size := by
  unfold tag at h
  cases hb : w.heap[b]? with
  | none => simp [hb] at h
  | some o => exact (Array.getElem?_eq_some_iff.1 hb).1
theorem tag_new (w : World) (c : Array Value) (t : Nat) : tag (w.alloc (.cells c t)) w.heap.size = t + 1 := by
  simp only [tag, Go.Deep.blk_alloc_new]
theorem TB_sub {B : Nat} {w w1 : World} (ht : Touch (TB B w) w w1) {b : Nat} (h : TB B w1 b) : grow (TB B w) w w1 b := by
  by_cases hb : b < w.heap.size
  · refine .inl (Classical.byContradiction fun hn => ?_)
    have e := ht.block b hb hn
    exact hn ⟨h.1, by rw [← h.2]; simp [tag, e]⟩
  · exact .inr ⟨by omega, tag_lt (by rw [h.2]; decide)⟩
theorem TB_trans {B : Nat} {w w1 w2 : World} (h : Touch (TB B w) w w1) (k : Touch (TB B w1) w1 w2) : Touch (TB B w) w w2 := h.trans (k.mono fun _ e => TB_sub h e)
/-- a row of bytes that is owned from B on has been appended to -/
theorem TB_grown {B n : Nat} {w w1 w2 : World} {v : Value} {xs : List Value} (h : Touch (TB B w) w w1) (ho : w1.ownsRow B 5 1 v n xs) (hg : w1.grownBy w2 v.ownBlock) : Touch (TB B w) w w2 :=
  h.grown hg (fun k hk => TB_sub h ⟨(ho.lt k hk).1, tag_own ho hk⟩)

/-- a buffer of at most m bytes comes back -/
def BufPost (B m : Nat) (w : World) (e : Ending) (w' : World) : Prop :=
  ∃ (v : Value) (n : Nat) (xs : List Int), e = .returned v ∧ w'.ownsRow B 5 1 v n (xs.map (Value.int .u8)) ∧ n ≤ m ∧ Touch (TB B w) w w'

set_option maxHeartbeats 1000000 in
set_option maxRecDepth 100000 in
theorem uva_any (B n x : Nat) (hx : x < 18446744073709551616) (sv : Value) (xs : List Int) (w : World) (hown : w.ownsRow B 5 1 sv n (xs.map (Value.int .u8))) (hBw : B ≤ w.heap.size) (hn : n ≤ 1000000) :
    Calls Try.prog 84 #[sv, .int .u64 x] w (BufPost B (n + 10) w) := by
  obtain ⟨i0, hi, hz0, hz1, hz2⟩ := info_parts info5
  have HL : Hid ((Lib.uvarint x).length ≤ 10) := Lib.uvarint_length64 hx
  clear hx
  go_enter Try.func84, Try.ntmps84
  go_wp2
  go_loopw [0, 1] (fun vb vx wr => ∃ (y k : Nat) (ys : List Int), vx = .int .u64 y ∧ k + (Lib.uvarint y).length ≤ n + 10 ∧ wr.ownsRow B 5 1 vb k (ys.map (Value.int .u8)) ∧ Touch (TB B w) w wr)
    (fun _ vx _ => (intOf vx).toNat)
  case atStart => exact ⟨x, n, xs, rfl, by have := HL.out; omega, hown, Touch.refl _ _⟩
  case round =>
    obtain ⟨y, k, ys, rfl, hk, hown1, hnx⟩ := hrel
    have hyp := Lib.uvarint_pos y
    have hsz := hnx.size
    by_cases h128 : 128 ≤ y
    · have hbig : (Lib.uvarint y).length = (Lib.uvarint (y / 128)).length + 1 := by rw [Lib.uvarint_big h128]; simp
      have HB : Hid ((Lib.uvarint y).length = (Lib.uvarint (y / 128)).length + 1) := hbig
      clear hbig
      go_wp2_with (first
        | (at_builtin; refine wpList_append_own_at _ rfl _ _ 22 rfl B 5 i0 (.int .u8 0) 1 1 Try.underlying22 hi hz0 hz1 hz2 rfl (by decide) _ _ _ rfl (hown1.alloc _) ⟨wr.heap.size, 0, none⟩ 1 1 [_] rfl rfl (cell_one_new _ _ _) (by simp [Value.oneCell']) (by unfold maxLen; omega) (by omega) (by simp; omega) ?_; intro v' w1 hown' hgrow hnil hloc)
        | go_in)
      go_roundw
      case rel => exact ⟨y / 128, k + 1, ys ++ [_], by go_num, by have := HB.out; omega, by rw [List.map_append]; exact hown', TB_grown (hnx.alloc _) (hown1.alloc _) hgrow⟩
      case measure => simp [intOf]; omega
    · go_wp2_with (first
        | (at_builtin; refine wpList_append_own_at _ rfl _ _ 22 rfl B 5 i0 (.int .u8 0) 1 1 Try.underlying22 hi hz0 hz1 hz2 rfl (by decide) _ _ _ rfl (hown1.alloc _) ⟨wr.heap.size, 0, none⟩ 1 1 [_] rfl rfl (cell_one_new _ _ _) (by simp [Value.oneCell']) (by unfold maxLen; omega) (by omega) (by simp; omega) ?_; intro v' w1 hown' hgrow hnil hloc)
        | go_in)
      go_ret
      exact ⟨v', k + 1, ys ++ [_], rfl, by rw [List.map_append]; exact hown', by omega, TB_grown (hnx.alloc _) (hown1.alloc _) hgrow⟩

set_option maxHeartbeats 1000000 in
set_option maxRecDepth 100000 in
theorem aid_any (B n : Nat) (sv : Value) (xs : List Int) (u : UInt8) (w : World) (hown : w.ownsRow B 5 1 sv n (xs.map (Value.int .u8))) (hBw : B ≤ w.heap.size) (hn : n ≤ 900000) :
    Calls Try.prog 85 #[sv, .string (idb u)] w (BufPost B (n + 20) w) := by
  obtain ⟨i0, hi, hz0, hz1, hz2⟩ := info_parts info5
  have HU : Hid (Calls Try.prog 84 #[sv, .int .u64 (1 : Nat)] w (BufPost B (n + 10) w)) := uva_any B n 1 (by omega) sv xs w hown hBw (by omega)
  have hs1 : (idb u).size = 1 := rfl
  go_enter Try.func85, Try.ntmps85
  go_wp2_with (first
    | (go_at_call 84; refine HU.out.mono ?_; rintro e w1 ⟨v1, n1, xs1, rfl, hown1, hn1, ht1⟩; have hsz := ht1.size)
    | (at_builtin; refine Lib.wpList_append_own_string _ rfl _ _ 22 9 rfl B 5 i0 Try.underlying22 Try.underlying9 hi hz0 hz1 hz2 _ _ _ rfl hown1 (idb u) rfl (by unfold maxLen; omega) (by omega) (by omega) ?_; intro v' w2 hown' hgrow hnil)
    | go_in)
  go_ret
  exact ⟨v', _, xs1 ++ [(u.toNat : Int)], rfl, by rw [List.map_append]; exact hown', by omega, TB_grown ht1 hown1 hgrow⟩

/-- one pair of a list, read -/
theorem entries_at {w : World} {v : Value} {xs : List (UInt8 × Int)} (h : w.ownsRow 0 91 3 v xs.length (cellsOf xs)) : ∃ (p : Option Addr) (cp : Nat), v = .slice p xs.length cp ∧ (0 < xs.length → ∃ g, p = some ⟨g, 0, none⟩) ∧
    ∀ g, p = some ⟨g, 0, none⟩ → v.ownBlock = some g ∧ g < w.heap.size ∧ ∀ i, (hi : i < xs.length) → w.cell? ⟨g, i * 3, none⟩ = some (.string (idb xs[i].1)) ∧ w.cell? ⟨g, i * 3 + 1, none⟩ = some (.int .u64 xs[i].2) ∧ w.cell? ⟨g, i * 3 + 2, none⟩ = some (.bool true) := by
  have hcells : ∀ (ys : List (UInt8 × Int)) (i : Nat) (hi : i < ys.length), (cellsOf ys)[i * 3]? = some (.string (idb ys[i].1)) ∧ (cellsOf ys)[i * 3 + 1]? = some (.int .u64 ys[i].2) ∧ (cellsOf ys)[i * 3 + 2]? = some (.bool true) := by
    intro ys
    induction ys with
    | nil => intro i hi; simp at hi
    | cons y ys ih =>
      intro i hi
      have e : cellsOf (y :: ys) = .string (idb y.1) :: .int .u64 y.2 :: .bool true :: cellsOf ys := rfl
      rw [e]
      cases i with
      | zero => simp
      | succ i =>
        have h2 := ih i (by simpa using hi)
        have e3 : (i + 1) * 3 = i * 3 + 1 + 1 + 1 := by omega
        rw [e3]
        simp only [List.getElem?_cons_succ, List.getElem_cons_succ]
        exact h2
  have hcs := fun g hg => h.cells (g := g) hg
  have hlt := h.lt
  obtain ⟨hl, h⟩ := h
  rcases h with ⟨rfl, h0⟩ | ⟨g, cap, cur, rfl, _, hb, _⟩
  · exact ⟨none, 0, by rw [h0], fun h => by omega, fun g h => by cases h⟩
  · refine ⟨some ⟨g, 0, none⟩, cap, rfl, fun _ => ⟨g, rfl⟩, fun g' e => ?_⟩
    cases e
    refine ⟨rfl, (hlt g rfl).2, fun i hi => ?_⟩
    have ha : ∀ j, (⟨g, 0, none⟩ : Addr).add j = ⟨g, j, none⟩ := fun j => by unfold Addr.add; split <;> simp_all
    obtain ⟨a1, a2, a3⟩ := hcells xs i hi
    have k1 := hcs g rfl _ _ a1
    have k2 := hcs g rfl _ _ a2
    have k3 := hcs g rfl _ _ a3
    rw [ha] at k1 k2 k3
    exact ⟨k1, k2, k3⟩

set_option maxHeartbeats 2000000 in
set_option maxRecDepth 100000 in
theorem apairs_any (v : Value) (xs : List (UInt8 × Int)) (w : World) (hown : w.ownsRow 0 91 3 v xs.length (cellsOf xs)) (h5 : xs.length ≤ 5) (hwf : ∀ x ∈ xs, (Lit.int .u64 x.2).wf = true) :
    Calls Try.prog 73 #[.slice none 0 0, v] w (BufPost w.heap.size 1000 w) := by
  obtain ⟨i0, hi0, hz0, hz1, hz2⟩ := info_parts info5
  obtain ⟨p, cp, rfl, hp, hcell⟩ := entries_at hown
  have HU : Hid (Calls Try.prog 84 #[.slice none 0 0, .int .u64 (xs.length : Nat)] w (BufPost w.heap.size (0 + 10) w)) := uva_any w.heap.size 0 xs.length (by omega) _ [] w (World.ownsRow_nil _ _ _ _) (Nat.le_refl _) (by omega)
  have HP : Hid (0 < xs.length → ∃ g, p = some ⟨g, 0, none⟩) := hp
  have HC := hide0 hcell
  have HW : Hid (∀ x ∈ xs, (Lit.int .u64 x.2).wf = true) := hwf
  clear hp hcell hown hwf
  go_enter Try.func73, Try.ntmps73
  go_wp2_with (go_at_call 84; refine HU.out.mono ?_; rintro e w1 ⟨v1, n1, xs1, rfl, hown1, hn1, ht1⟩)
  go_loopw [0, 14] (fun vb i wr => ∃ (j k : Nat) (ys : List Int), j ≤ xs.length ∧ i = .int .i64 j ∧ wr.ownsRow w.heap.size 5 1 vb k (ys.map (Value.int .u8)) ∧ k ≤ 10 + 100 * j ∧ Touch (TB w.heap.size w) w wr) (fun _ i _ => xs.length - (intOf i).toNat)
  case atStart => exact ⟨0, n1, xs1, Nat.zero_le _, rfl, hown1, by omega, ht1⟩
  case round =>
    obtain ⟨j, k, ys, hj, rfl, hownr, hk, htr⟩ := hrel
    by_cases hlt : j < xs.length
    · obtain ⟨g, rfl⟩ := HP.out (by omega)
      obtain ⟨_, hgl, hcs⟩ := HC.out g rfl
      obtain ⟨c0, c1, c2⟩ := hcs j hlt
      have hwj := HW.out xs[j] (List.getElem_mem hlt)
      have eg : wr.heap[g]? = w.heap[g]? := htr.block g hgl (fun e => by have := e.1; omega)
      have ec : ∀ o, wr.cell? ⟨g, o, none⟩ = w.cell? ⟨g, o, none⟩ := fun o => World.cell?_of_block (w := w) eg
      rw [← ec] at c0 c1 c2
      have hgr : g < wr.heap.size := by have := htr.size; omega
      clear hcs eg ec
      generalize xs[j].1 = u at c0
      generalize xs[j].2 = t at c1 hwj
      have hszr := htr.size
      obtain ⟨tn, rfl⟩ : ∃ tn : Nat, t = tn := ⟨t.toNat, by have := bounds_u64 hwj; omega⟩
      have HT : Hid (tn < 18446744073709551616) := by have := bounds_u64 hwj; show tn < 18446744073709551616; omega
      clear hwj
      go_wp2_with fail
      refine (aid_any w.heap.size k u0 ys u _ (hownr.alloc _) (by simp; omega) (by omega)).mono ?_
      rintro e w3 ⟨v3, n3, xs3, rfl, hown3, hn3, ht3⟩
      have hsz3 := ht3.size
      have eb : w3.heap[wr.heap.size]? = (wr.alloc (.cells #[.string (idb u), .int .u64 tn, .bool true] 91)).heap[wr.heap.size]? := ht3.block _ (by simp) (fun e => by have := e.2; rw [tag_new] at this; cases this)
      have b1 : w3.cell? ⟨wr.heap.size, 1, none⟩ = some (.int .u64 tn) := by rw [World.cell?_of_block (w := wr.alloc _) eb]; simp
      have b2 : w3.cell? ⟨wr.heap.size, 2, none⟩ = some (.bool true) := by rw [World.cell?_of_block (w := wr.alloc _) eb]; simp
      clear eb
      go_wp2_with fail
      refine (uva_any w.heap.size n3 tn HT.out v3 xs3 _ hown3 (by simp at hsz3; omega) (by omega)).mono ?_
      rintro e w4 ⟨v4, n4, xs4, rfl, hown4, hn4, ht4⟩
      have hsz4 := ht4.size
      have eb : w4.heap[wr.heap.size]? = w3.heap[wr.heap.size]? := ht4.block _ (by simp at hsz3; omega) (fun e => by
        have h1 := e.2
        have h2 : w3.heap[wr.heap.size]? = (wr.alloc (.cells #[.string (idb u), .int .u64 tn, .bool true] 91)).heap[wr.heap.size]? := ht3.block _ (by simp) (fun e => by have := e.2; rw [tag_new] at this; cases this)
        have h3 := tag_new wr #[.string (idb u), .int .u64 tn, .bool true] 91
        simp only [tag, h2] at h1 h3
        rw [h1] at h3
        cases h3)
      have b3 : w4.cell? ⟨wr.heap.size, 2, none⟩ = some (.bool true) := by rw [World.cell?_of_block (w := w3) eb]; exact b2
      have T4 : Touch (TB w.heap.size w) w w4 := TB_trans (TB_trans (htr.alloc _) ht3) ht4
      clear eb b1 b2
      go_wp2_with (first
        | (at_builtin; refine wpList_append_own_at _ rfl _ _ 22 rfl w.heap.size 5 i0 (.int .u8 0) 1 1 Try.underlying22 hi0 hz0 hz1 hz2 rfl (by decide) _ _ _ rfl (hown4.alloc _) ⟨w4.heap.size, 0, none⟩ 1 1 [_] rfl rfl (cell_one_new _ _ _) (by simp [Value.oneCell']) (by unfold maxLen; omega) (by omega) (by simp at hsz3; simp; omega) ?_; intro v5 w5 hown5 hgrow5 hnil5 hloc5)
        | go_in)
      go_roundw
      case rel => exact ⟨j + 1, n4 + 1, xs4 ++ [_], by omega, by go_num, by rw [List.map_append]; exact hown5, by omega, TB_grown (T4.alloc _) (hown4.alloc _) hgrow5⟩
      case measure => simp [intOf]; omega
    · go_wp2_with fail
      go_ret
      exact ⟨_, k, ys, rfl, hownr, by omega, htr⟩

set_option maxHeartbeats 1000000 in
set_option maxRecDepth 100000 in
theorem new64_any (w : World) : Calls Try.prog 72 #[] w fun e w' => e = .returned (.iface 133 (.pointer (some ⟨w.heap.size, 0, none⟩))) ∧ ∃ z : Int, 0 ≤ z ∧ w' = w.alloc (.cells #[.int .u64 z] 132) := by
  go_enter Try.func72, Try.ntmps72
  go_wp2
  go_ret
  exact ⟨rfl, 14695981039346656037, by decide, rfl⟩

set_option maxHeartbeats 1000000 in
set_option maxRecDepth 100000 in
theorem write_any (hb B n : Nat) (z : Int) (v : Value) (xs : List Int) (w : World) (hz : 0 ≤ z) (hown : w.ownsRow B 5 1 v n (xs.map (Value.int .u8))) (hn : n ≤ 1000000) (hc : w.cell? ⟨hb, 0, none⟩ = some (.int .u64 z)) (hf : w.frozen? ⟨hb, 0, none⟩ = false) :
    Calls Try.prog 111 #[.pointer (some ⟨hb, 0, none⟩), v] w fun e w' => e = .returned (.tuple #[.int .i64 n, .nilIface]) ∧ ∃ z' : Int, 0 ≤ z' ∧ w' = w.setCell ⟨hb, 0, none⟩ (.int .u64 z') := by
  have hl : (xs.map (Value.int .u8)).length = n := by have := hown.1; simpa using this
  have hown0 : w.ownsRow 0 5 1 v n (xs.map (Value.int .u8)) := by
    refine ⟨hown.1, ?_⟩
    rcases hown.2 with e | ⟨g, cp, cur, e1, e2, e3⟩
    · exact .inl e
    · exact .inr ⟨g, cp, cur, e1, Nat.zero_le _, e3⟩
  obtain ⟨p, cp, rfl, hp, hcell⟩ := own_at hown0
  have HP := hide0 hp
  have HC := hide0 hcell
  have HL := hide0 hl
  clear hp hcell hl hown hown0
  go_enter Try.func111, Try.ntmps111
  go_wp2
  go_loop [6, 14] (fun a i => ∃ (y : Int) (j : Nat), 0 ≤ y ∧ j ≤ n ∧ a = .int .u64 y ∧ i = .int .i64 j) (fun _ i => n - (intOf i).toNat)
  case atStart => exact ⟨z, 0, hz, Nat.zero_le _, rfl, rfl⟩
  case round =>
    obtain ⟨y, j, hy, hj, rfl, rfl⟩ := hrel
    by_cases hlt : j < n
    · obtain ⟨g, rfl⟩ := HP.out (by omega)
      have dk := ((HC.out g rfl).2 j (by have := HL.out; omega)).1
      rw [List.getElem_map] at dk
      generalize (xs[j]'(by have := HL.out; simp at this; omega)) = c at dk
      go_wp2
      go_round
      case rel => exact ⟨_, j + 1, wrap_nn _, by omega, rfl, by go_num⟩
      case measure => simp [intOf]; omega
    · go_wp2
      go_ret2
      exact ⟨rfl, y, hy, rfl⟩

theorem nil_write (a : Addr) (w : World) : (nilAhead 256 133 (.pointer (some a)) "Write").run Try.prog w = .ok (some false) w := by kernel_rfl
theorem method_write (a : Addr) (w : World) : (method 256 133 (.pointer (some a)) "Write").run Try.prog w = .ok (111, .pointer (some a)) w := by kernel_rfl
theorem method_sum (a : Addr) (w : World) : (method 256 133 (.pointer (some a)) "Sum64").run Try.prog w = .ok (110, .pointer (some a)) w := by kernel_rfl
theorem sum_any (hb : Nat) (z : Int) (w : World) (hc : w.cell? ⟨hb, 0, none⟩ = some (.int .u64 z)) : Calls Try.prog 110 #[.pointer (some ⟨hb, 0, none⟩)] w fun e w' => e = .returned (.int .u64 z) ∧ w' = w := by
  go_enter Try.func110, Try.ntmps110
  go_wp2
  go_ret
  exact ⟨rfl, rfl⟩

set_option maxHeartbeats 2000000 in
set_option maxRecDepth 100000 in
theorem digest_any (v : Value) (xs : List (UInt8 × Int)) (w : World) (hown : w.ownsRow 0 91 3 v xs.length (cellsOf xs)) (h5 : xs.length ≤ 5) (hwf : ∀ x ∈ xs, (Lit.int .u64 x.2).wf = true) :
    Calls Try.prog 51 #[v] w fun e w' => ∃ z : Int, 0 ≤ z ∧ e = .returned (.int .u64 z) ∧ Below w.heap.size w w' := by
  have HO := hide0 hown
  have HW := hide0 hwf
  clear hown hwf
  go_enter Try.func51, Try.ntmps51
  go_upto_region 2 with (go_at_call 72; refine (new64_any _).mono ?_; rintro e w1 ⟨rfl, z, hz, rfl⟩)
  have HA : Calls Try.prog 73 #[.slice none 0 0, v] (w.alloc (.cells #[.int .u64 z] 132)).drew (BufPost (w.heap.size + 1) 1000 (w.alloc (.cells #[.int .u64 z] 132)).drew) := by
    have := apairs_any v xs (w.alloc (.cells #[.int .u64 z] 132)).drew (HO.out.alloc _) h5 HW.out
    rwa [show (w.alloc (.cells #[.int .u64 z] 132)).drew.heap.size = w.heap.size + 1 from by simp] at this
  have hk : ∀ w1, Touch (TB (w.heap.size + 1) (w.alloc (.cells #[.int .u64 z] 132)).drew) (w.alloc (.cells #[.int .u64 z] 132)).drew w1 → w1.cell? ⟨w.heap.size, 0, none⟩ = some (.int .u64 z) ∧ w1.frozen? ⟨w.heap.size, 0, none⟩ = false ∧ Below w.heap.size w w1 := by
    intro w1 ht
    have eb : w1.heap[w.heap.size]? = (w.alloc (.cells #[.int .u64 z] 132)).heap[w.heap.size]? := ht.block _ (by simp) (fun e => by have := e.1; omega)
    refine ⟨?_, ?_, ?_⟩
    · rw [World.cell?_of_block (w := w.alloc _) eb]; simp
    · rw [World.frozen?_of_block (w := w.alloc _) eb]; simp
    · have hs := ht.size
      simp at hs
      exact ⟨ht.os, ht.tape, ht.output, by omega, fun b hb => (ht.block b (by simp; omega) (fun e => by have := e.1; omega)).trans (Below.heap_alloc _ _ _ hb)⟩
  have HK := hide0 hk
  have m1 := nil_write
  have m2 := method_write
  have m3 := method_sum
  clear hk
  go_region_with (first
    | (go_at_call 73; refine HA.mono ?_; rintro e w1 ⟨v1, n1, xs1, rfl, hown1, hn1, ht1⟩; obtain ⟨k1, k2, k3⟩ := HK.out w1 ht1)
    | (go_at_call 111; refine (write_any w.heap.size (w.heap.size + 1) n1 z v1 xs1 w1 hz hown1 (by omega) k1 k2).mono ?_; rintro e w2 ⟨rfl, z2, hz2, rfl⟩))
  all_goals go_wp2_with (go_at_call 110; refine (sum_any w.heap.size z2 _ (by go_simp)).mono ?_; rintro e w3 ⟨rfl, rfl⟩)
  all_goals
    go_ret
    exact ⟨z2, hz2, rfl, k3.setCell (Nat.le_refl _) _⟩
end Go.Proofs.Qxb6002353a
