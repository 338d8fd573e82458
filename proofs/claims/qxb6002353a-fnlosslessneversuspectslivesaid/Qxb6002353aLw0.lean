/-
  THE LAW's OWN SMALL FUNCTIONS: names, the list of crashes.
-/
import Derived.Test.Qxb6002353aClose
namespace Go.Proofs.Qxb6002353a
open Go.RowKit Go.Maps

/-- the i-th name -/
def nm (i : Nat) : UInt8 := UInt8.ofNat (97 + i)

def StrIs (u : UInt8) (w : World) (e : Ending) (w' : World) : Prop := e = .returned (.string (idb u)) ∧ w' = w

set_option maxHeartbeats 4000000 in
theorem idof_any (i : Nat) (hi : i < 5) (w : World) : Calls Try.prog 24 #[.int .i64 (i : Int)] w (StrIs (nm i) w) := by
  have h : i = 0 ∨ i = 1 ∨ i = 2 ∨ i = 3 ∨ i = 4 := by omega
  rcases h with rfl | rfl | rfl | rfl | rfl <;>
  · go_enter Try.func24, Try.ntmps24
    go_wp2_with fail
    go_ret
    exact ⟨rfl, rfl⟩

theorem nm_inj {i j : Nat} (hi : i < 5) (hj : j < 5) (h : nm i = nm j) : i = j := by
  have := congrArg UInt8.toNat h
  simp [nm] at this
  omega
theorem nm_is {i : Nat} (hi : i < 5) : IsNm (nm i) := by
  simp [nm, IsNm]
  omega
theorem is_nm {u : UInt8} (h : IsNm u) : ∃ i, i < 5 ∧ u = nm i := by
  obtain ⟨h1, h2⟩ := h
  refine ⟨u.toNat - 97, by omega, ?_⟩
  apply UInt8.toNat_inj.1
  simp [nm]
  omega

theorem idb_toList (u : UInt8) : (idb u).toList = [u] := by
  rw [ByteArray.toList_eq]
  rfl
theorem idb_same {u v : UInt8} (h : ((idb u).toList == (idb v).toList) = true) : u = v := by
  have h1 := beq_iff_eq.1 h
  rw [idb_toList, idb_toList] at h1
  simpa using h1

/-- where a name stands -/
def IdxPost (u : UInt8) (k : Nat) (w : World) (e : Ending) (w' : World) : Prop :=
  ∃ z : Int, e = .returned (.int .i64 z) ∧ (z = -1 ∨ ∃ j : Nat, j < k ∧ z = (j : Int) ∧ u = nm j) ∧ w' = w

set_option maxHeartbeats 4000000 in
theorem index_any (u : UInt8) (k : Nat) (hk : k ≤ 5) (w : World) : Calls Try.prog 20 #[.string (idb u), .int .i64 (k : Int)] w (IdxPost u k w) := by
  go_enter Try.func20, Try.ntmps20
  go_wp2_with fail
  go_loop [5] (fun i => ∃ j : Nat, j ≤ k ∧ i = .int .i64 j) (fun i => k - (intOf i).toNat)
  case atStart => exact ⟨0, Nat.zero_le _, rfl⟩
  case round =>
    obtain ⟨j, hj, rfl⟩ := hrel
    by_cases hlt : j < k
    · cases he : ((idb (nm j)).toList == (idb u).toList)
      · go_wp2_with (go_at_call 24; refine (idof_any j (by omega) _).mono ?_; rintro e w' ⟨rfl, rfl⟩)
        go_round
        case rel => exact ⟨j + 1, by omega, by go_num⟩
        case measure => simp [intOf]; omega
      · go_wp2_with (go_at_call 24; refine (idof_any j (by omega) _).mono ?_; rintro e w' ⟨rfl, rfl⟩)
        go_ret
        exact ⟨_, rfl, .inr ⟨j, hlt, rfl, (idb_same he).symm⟩, rfl⟩
    · go_wp2_with fail
      go_ret
      exact ⟨_, rfl, .inl rfl, rfl⟩

/-- the list of crashes, as the law's own copy holds it -/
def CrashIs (w : World) (v : Value) (cs : List Int) : Prop :=
  (v = .slice none 0 0 ∧ cs = []) ∨ ∃ b, v = .slice (some ⟨b, 0, none⟩) cs.length cs.length ∧ w.rowIs b 5 cs.length (fun i => .int .u8 (cs.getD i 0)) ∧ cs.length ≤ 64

def liveB (cs : List Int) (i p : Nat) : Bool := decide (cs.length ≤ i) || (cs.getD i 0 == 0) || decide ((p : Int) < cs.getD i 0)

def BoolIs (b : Bool) (w : World) (e : Ending) (w' : World) : Prop := e = .returned (.bool b) ∧ w' = w
theorem CrashIs.kept {w w' : World} {v : Value} {cs : List Int} {row : Option Nat} (h : CrashIs w v cs) (hg : w.grownBy w' row) (hne : ∀ k, row = some k → tag w k ≠ 6) : CrashIs w' v cs := by
  rcases h with h | ⟨b, h1, h2, h3⟩
  · exact .inl h
  · exact .inr ⟨b, h1, rowIs_kept h2 hg (fun e => hne b e.symm (tag_row h2)), h3⟩

set_option maxHeartbeats 4000000 in
theorem live_any {w : World} {v : Value} {cs : List Int} (h : CrashIs w v cs) (hp : ∀ z ∈ cs, 0 ≤ z ∧ z ≤ 255) (i p : Nat) : Calls Try.prog 16 #[v, .int .i64 (i : Int), .int .i64 (p : Int)] w (BoolIs (liveB cs i p) w) := by
  rcases h with ⟨rfl, rfl⟩ | ⟨b, rfl, hr, h64⟩
  · go_enter Try.func16, Try.ntmps16
    go_wp2_with fail
    go_ret
    exact ⟨by simp [liveB], rfl⟩
  · by_cases hlt : i < cs.length
    · have hc : w.cell? ⟨b, i, none⟩ = some (.int .u8 (cs.getD i 0)) := World.rowIs.cell hr hlt
      have hz : 0 ≤ cs.getD i 0 ∧ cs.getD i 0 ≤ 255 := by
        have e : cs.getD i 0 = cs[i] := by simp [List.getD, hlt]
        rw [e]; exact hp _ (List.getElem_mem hlt)
      unfold liveB
      have hnl : decide (cs.length ≤ i) = false := by simp; omega
      rw [hnl, Bool.false_or]
      generalize cs.getD i 0 = z at hc hz
      have HH := hide0 hz
      clear hp hr hz hnl
      by_cases hz0 : z = 0
      · subst hz0
        go_enter Try.func16, Try.ntmps16
        go_wp2_with fail
        go_ret
        exact ⟨by simp, rfl⟩
      · have hzb : (z == 0) = false := beq_eq_false_iff_ne.2 hz0
        have hw : IntKind.i64.wrap z = z := by rw [IntKind.wrap_i64]; have := HH.out; omega
        go_enter Try.func16, Try.ntmps16
        go_wp2_with fail
        go_ret
        exact ⟨by simp [hzb], rfl⟩
    · have hle : cs.length ≤ i := by omega
      go_enter Try.func16, Try.ntmps16
      go_wp2_with fail
      go_ret
      exact ⟨by simp [liveB, hle], rfl⟩

def SomeBool (w : World) (e : Ending) (w' : World) : Prop := ∃ b, e = .returned (.bool b) ∧ w' = w
theorem zz_any (a0 a1 a3 a4 : Int) (p : Option Addr) (n cp : Nat) (w : World) : Calls Try.prog 15 #[.int .u8 a0, .int .u8 a1, .slice p n cp, .int .u8 a3, .int .i8 a4] w (SomeBool w) := by
  by_cases hb : n ≤ 1048576
  · go_enter Try.func15, Try.ntmps15
    go_wp2_with fail
    all_goals
      go_ret
      exact ⟨_, rfl, rfl⟩
  · have hg : 1048576 < n := by omega
    go_enter Try.func15, Try.ntmps15
    go_wp2_with fail
    go_ret
    exact ⟨_, rfl, rfl⟩

theorem info5 : (Try.prog.info? 5).map (fun i => (i.zero, i.size, i.bytes)) = some (some (.int .u8 0), 1, 1) := by kernel_rfl

/-- what the walk is told of a slice of bytes that came in -/
def BytesIn (w : World) (a : Option Addr) (len cap : Nat) (zs : List Int) : Prop :=
  (a = none ∧ len = 0 ∧ cap = 0) ∨ ∃ x, a = some x ∧ len ≤ cap ∧ zs.length = cap ∧ (∀ i, i < zs.length → w.cell? (x.add i) = some (.int .u8 (zs.getD i 0))) ∧ ∀ n ∈ zs, 0 ≤ n ∧ n ≤ 255

def ClonePost (w : World) (e : Ending) (w' : World) : Prop :=
  ∃ v cs, e = .returned v ∧ CrashIs w' v cs ∧ (∀ z ∈ cs, 0 ≤ z ∧ z ≤ 255) ∧ Below w.heap.size w w'

theorem add_block (x : Addr) (j : Nat) : (x.add j).block = x.block := by
  unfold Addr.add
  split <;> rfl

theorem take_getD (zs : List Int) (n j : Nat) (h : j < n) : (zs.take n).getD j 0 = zs.getD j 0 := by
  simp [List.getD, h]

set_option maxHeartbeats 4000000 in
set_option maxRecDepth 100000 in
theorem clone_any {w : World} {a : Option Addr} {len cap : Nat} {zs : List Int} (h : BytesIn w a len cap zs) (h64 : len ≤ 64) : Calls Try.prog 7 #[.slice a len cap] w (ClonePost w) := by
  rcases h with ⟨rfl, rfl, rfl⟩ | ⟨x, rfl, h1, h2, h3, h4⟩
  · have hnil := fun w => Lib.run_eql_slice_nil (P := Try.prog) w 22 5 none 0 0 0 0 Try.underlying22
    go_enter Try.func7, Try.ntmps7
    go_wp2_with fail
    go_ret
    exact ⟨_, [], rfl, .inl ⟨rfl, rfl⟩, by simp, Below.refl _ _⟩
  · have hmk : ∀ w : World, (Instr.makeSlice 22 (.int .i64 (len : Int)) (.int .i64 (len : Int))).run Try.prog w = .ok (.slice (some ⟨w.heap.size, 0, none⟩) len len) (w.alloc (.cells (madeCells #[.int .u8 0] len) 5)) :=
      fun w => run_make_row' 22 5 _ 1 Try.underlying22 info5 rfl .i64 .i64 len (by omega) (by omega) w
    have hnil := fun w => Lib.run_eql_slice_nil (P := Try.prog) w 22 5 (some x) len cap 0 0 Try.underlying22
    have HC : Hid (∀ i, i < len → w.cell? (x.add i) = some (.int .u8 (zs.getD i 0))) := fun i hi => h3 i (by omega)
    have HZ := hide0 h4
    have HL := hide0 h2
    have hxb : 0 < len → x.block < w.heap.size := fun hp => by
      have := h3 0 (by omega)
      exact block_lt_of_cell (by simpa [Addr.add] using this)
    have HXB := hide0 hxb
    clear h3 h4 h2 hxb
    go_enter Try.func7, Try.ntmps7
    go_wp2_with fail
    go_loopw [4] (fun i wr => ∃ j : Nat, j ≤ len ∧ i = .int .i64 j ∧ wr.rowIs w.heap.size 5 len (fun t => if t < j then .int .u8 (zs.getD t 0) else .int .u8 0) ∧ Below w.heap.size w wr) (fun i _ => len - (intOf i).toNat)
    case atStart =>
      exact ⟨0, Nat.zero_le _, rfl, World.rowIs.congr (World.rowIs_made w _ len 5) (fun _ _ => by simp), (Below.refl _ _).alloc (Nat.le_refl _) _⟩
    case round =>
      obtain ⟨j, hj, rfl, hrow, hbel⟩ := hrel
      by_cases hlt : j < len
      · have hxb := HXB.out (by omega)
        have hc : wr.cell? (x.add j) = some (.int .u8 (zs.getD j 0)) := by
          rw [← HC.out j hlt]
          exact World.cell?_of_block (hbel.block _ (by rw [add_block]; exact hxb))
        have hf := World.rowIs.frozen hrow j
        have hd := World.rowIs.cell hrow hlt
        simp only [Nat.lt_irrefl, if_false] at hd
        have HROW := hide0 hrow
        have HBEL := hide0 hbel
        have hlr := World.rowIs.lt hrow
        obtain ⟨xb, xo, xv⟩ := x
        clear hrow hbel
        generalize hzz : zs.getD j 0 = z at hc
        have HZZ := hide0 hzz
        clear hzz
        go_wp2_with fail
        go_round
        case rel =>
          refine ⟨j + 1, by omega, by go_num, World.rowIs.congr (rowIs_put HROW.out j _) (fun t ht => ?_), HBEL.out.setCell (Nat.le_refl _) _⟩
          by_cases e : t = j
          · subst e; rw [put_same, if_pos (by omega), HZZ.out]
          · rw [put_other _ _ _ _ e]
            by_cases h' : t < j
            · rw [if_pos h', if_pos (by omega)]
            · rw [if_neg h', if_neg (by omega)]
        case measure => simp [intOf]; omega
      · have HROW := hide0 hrow
        have HBEL := hide0 hbel
        clear hrow hbel
        go_wp2_with fail
        go_ret
        have e : (zs.take len).length = len := by rw [List.length_take]; have := HL.out; omega
        refine ⟨_, zs.take len, rfl, .inr ⟨w.heap.size, by rw [e]; rfl, ?_, by omega⟩, fun z hz => HZ.out z (List.mem_of_mem_take hz), HBEL.out⟩
        rw [e]
        exact World.rowIs.congr HROW.out (fun t ht => by rw [if_pos (by omega), take_getD zs len t ht])
end Go.Proofs.Qxb6002353a
