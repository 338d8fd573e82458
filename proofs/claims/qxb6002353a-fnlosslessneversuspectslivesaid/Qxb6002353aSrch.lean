/-
  THE TWO SEARCHES: where they end is in bounds; nothing more is needed of them.
-/
import Derived.Test.Qxb6002353aOnes
import Derived.Lib.Bytealg
import Derived.Laws.Externs
import Derived.BigQuiet
namespace Go.Proofs.Qxb6002353a
open Go.RowKit Go.Maps

theorem cmp74 (a b : ByteArray) (w : World) : Calls Try.prog 74 #[.string a, .string b] w (I64s w) := by
  go_enter Try.func74, Try.ntmps74
  go_wp2
  rw [run_callFunc_extern Try.func86 (by kernel_rfl) (by kernel_rfl) (by kernel_rfl) (e := Extern.BytealgCompare.compare) (by kernel_rfl), Lib.run_compareString]
  simp only [Result.andThen]
  rw [Oper.upon_value]
  go_wp2
  go_ret
  exact ⟨_, rfl, rfl⟩

theorem cmp54 (a b : ByteArray) (w : World) : Calls Try.prog 54 #[.string a, .string b] w (I64s w) := by
  go_enter Try.func54, Try.ntmps54
  go_wp2_with (go_at_call 74; refine (cmp74 _ _ _).mono ?_; rintro e w' ⟨z, rfl, rfl⟩)
  go_ret
  exact ⟨_, rfl, rfl⟩

theorem cmp53 (b : Nat) (s t : ByteArray) (w : World) (hc : w.cell? ⟨b, 0, none⟩ = some (.string s)) : Calls Try.prog 53 #[.pointer (some ⟨b, 0, none⟩), .string t] w (I64s w) := by
  go_enter Try.func53, Try.ntmps53
  go_wp2_with (go_at_call 54; refine (cmp54 _ _ _).mono ?_; rintro e w' ⟨z, rfl, rfl⟩)
  go_ret
  exact ⟨_, rfl, rfl⟩

/-- where a search ends -/
def SrchPost (n : Nat) (w : World) (e : Ending) (w' : World) : Prop :=
  ∃ (i : Nat) (b : Bool), e = .returned (.tuple #[.int .i64 (i : Int), .bool b]) ∧ i ≤ n ∧ (b = true → i < n) ∧ w' = w

set_option maxHeartbeats 4000000 in
set_option maxRecDepth 100000 in
theorem srch52 {w : World} {ab cap : Nat} {G : Nat → Value} {L : List Nat} (nms : Nat → ByteArray) (t : ByteArray) (hrow : w.rowIs ab 74 cap G) (hptr : ∀ i, (h : i < L.length) → G i = .pointer (some ⟨L[i], 0, none⟩)) (hle : L.length ≤ cap) (h5 : L.length ≤ 5)
    (hnm : ∀ b ∈ L, w.cell? ⟨b, 0, none⟩ = some (.string (nms b))) :
    Calls Try.prog 52 #[.slice (some ⟨ab, 0, none⟩) L.length cap, .string t, .func (.func 53) #[] #[]] w (SrchPost L.length w) := by
  have hcell : ∀ i, (h : i < L.length) → w.cell? ⟨ab, i, none⟩ = some (.pointer (some ⟨L[i], 0, none⟩)) := fun i h => by
    rw [← hptr i h]; exact World.rowIs.cell hrow (by omega)
  have HC := hide0 hcell
  have HN := hide0 hnm
  clear hrow hptr hcell hnm
  go_enter Try.func52, Try.ntmps52
  go_wp2_with fail
  go_loop [9, 10] (fun a b => ∃ i j : Nat, i ≤ j ∧ j ≤ L.length ∧ a = .int .i64 i ∧ b = .int .i64 j) (fun a b => (intOf b).toNat - (intOf a).toNat)
  case atStart => exact ⟨0, L.length, Nat.zero_le _, Nat.le_refl _, rfl, rfl⟩
  case round =>
    obtain ⟨i, j, hij, hj, rfl, rfl⟩ := hrel
    by_cases hlt : i < j
    · go_upto_region 5 with fail
      obtain ⟨m, hm, hm1, hm2⟩ : ∃ m : Nat, ((i : Int) + (j : Int)) / 2 = (m : Int) ∧ i ≤ m ∧ m < j := ⟨(i + j) / 2, by omega, by omega, by omega⟩
      rw [hm]
      clear hm
      have d1 := HC.out m (by omega)
      have d2 := HN.out (L[m]'(by omega)) (List.getElem_mem _)
      generalize (L[m]'(by omega)) = b at d1 d2
      have hmn : m < L.length := by omega
      go_upto_if 31 with (go_at_call 53; refine (cmp53 b _ _ _ d2).mono ?_; rintro e w' ⟨z, rfl, rfl⟩)
      by_cases hz : z < 0
      · go_wp2_with fail
        go_round
        case rel => exact ⟨m + 1, j, by omega, hj, by go_num, rfl⟩
        case measure => simp [intOf]; omega
      · have hz' : 0 ≤ z := by omega
        clear hz
        go_wp2_with fail
        go_round
        case rel => exact ⟨i, m, hm1, by omega, rfl, rfl⟩
        case measure => simp [intOf]; omega
    · have hle2 : j ≤ i := by omega
      clear hlt
      go_upto_region 8 with fail
      by_cases hin : i < L.length
      · have d1 := HC.out i hin
        have d2 := HN.out L[i] (List.getElem_mem _)
        generalize L[i] = b at d1 d2
        go_wp2_with (go_at_call 53; refine (cmp53 b _ _ _ d2).mono ?_; rintro e w' ⟨z, rfl, rfl⟩)
        go_ret2
        exact ⟨i, _, rfl, by omega, fun _ => hin, rfl⟩
      · have hge : L.length ≤ i := by omega
        clear hin
        go_wp2_with fail
        go_ret2
        exact ⟨i, _, rfl, by omega, fun h => by simp at h, rfl⟩

def BoolAny (w : World) (e : Ending) (w' : World) : Prop := ∃ b, e = .returned (.bool b) ∧ w' = w
def BoolFalse (w : World) (e : Ending) (w' : World) : Prop := e = .returned (.bool false) ∧ w' = w

theorem nan77 (s : ByteArray) (w : World) : Calls Try.prog 77 #[.string s] w (BoolFalse w) := by
  go_enter Try.func77, Try.ntmps77
  go_wp2_with fail
  go_ret
  exact ⟨by simp, rfl⟩
theorem nan57 (s : ByteArray) (w : World) : Calls Try.prog 57 #[.string s] w (BoolFalse w) := by
  go_enter Try.func57, Try.ntmps57
  go_wp2_with fail
  go_ret
  exact ⟨by simp, rfl⟩
theorem less56 (s t : ByteArray) (w : World) : Calls Try.prog 56 #[.string s, .string t] w (BoolAny w) := by
  go_enter Try.func56, Try.ntmps56
  go_wp2_with (go_at_call 77; refine (nan77 _ _).mono ?_; rintro e w' ⟨rfl, rfl⟩)
  go_ret
  exact ⟨_, rfl, rfl⟩

set_option maxHeartbeats 4000000 in
set_option maxRecDepth 100000 in
theorem srch39 {w : World} {v : Value} {n : Nat} {xs : List ByteArray} (t : ByteArray) (hown : w.ownsRow 0 9 1 v n (xs.map Value.string)) (h5 : n ≤ 5) :
    Calls Try.prog 39 #[v, .string t] w (SrchPost n w) := by
  have hl : xs.length = n := by have := hown.1; simpa using this
  obtain ⟨p, cp, rfl, hp, hcell⟩ := own_at hown
  have hc : ∀ i, i < n → ∃ g s, p = some ⟨g, 0, none⟩ ∧ w.cell? ⟨g, i, none⟩ = some (.string s) := fun i hi => by
    obtain ⟨g, hg⟩ := hp (by omega)
    have := ((hcell g hg).2 i (by simp; omega)).1
    rw [List.getElem_map] at this
    exact ⟨g, _, hg, this⟩
  have HC := hide0 hc
  clear hown hp hcell hl hc
  go_enter Try.func39, Try.ntmps39
  go_wp2_with fail
  go_loop [7, 8] (fun a b => ∃ i j : Nat, i ≤ j ∧ j ≤ n ∧ a = .int .i64 i ∧ b = .int .i64 j) (fun a b => (intOf b).toNat - (intOf a).toNat)
  case atStart => exact ⟨0, n, Nat.zero_le _, Nat.le_refl _, rfl, rfl⟩
  case round =>
    obtain ⟨i, j, hij, hj, rfl, rfl⟩ := hrel
    by_cases hlt : i < j
    · go_upto_region 5 with fail
      obtain ⟨m, hm, hm1, hm2⟩ : ∃ m : Nat, ((i : Int) + (j : Int)) / 2 = (m : Int) ∧ i ≤ m ∧ m < j := ⟨(i + j) / 2, by omega, by omega, by omega⟩
      rw [hm]
      clear hm
      obtain ⟨g, s, rfl, d1⟩ := HC.out m (by omega)
      have hmn : m < n := by omega
      go_upto_if 27 with (go_at_call 56; refine (less56 _ _ _).mono ?_; rintro e w' ⟨z, rfl, rfl⟩)
      cases z
      · go_wp2_with fail
        go_round
        case rel => exact ⟨i, m, hm1, by omega, rfl, rfl⟩
        case measure => simp [intOf]; omega
      · go_wp2_with fail
        go_round
        case rel => exact ⟨m + 1, j, by omega, hj, by go_num, rfl⟩
        case measure => simp [intOf]; omega
    · have hle2 : j ≤ i := by omega
      clear hlt
      go_upto_region 8 with fail
      by_cases hin : i < n
      · obtain ⟨g, s, rfl, d1⟩ := HC.out i hin
        cases he : (s.toList == t.toList)
        · go_wp2_with (go_at_call 57; refine (nan57 _ _).mono ?_; rintro e w' ⟨rfl, rfl⟩)
          go_ret2
          exact ⟨i, _, rfl, by omega, fun _ => hin, rfl⟩
        · go_wp2_with (go_at_call 57; refine (nan57 _ _).mono ?_; rintro e w' ⟨rfl, rfl⟩)
          go_ret2
          exact ⟨i, _, rfl, by omega, fun _ => hin, rfl⟩
      · have hge : n ≤ i := by omega
        clear hin
        go_wp2_with fail
        go_ret2
        exact ⟨i, _, rfl, by omega, fun h => by simp at h, rfl⟩
end Go.Proofs.Qxb6002353a
