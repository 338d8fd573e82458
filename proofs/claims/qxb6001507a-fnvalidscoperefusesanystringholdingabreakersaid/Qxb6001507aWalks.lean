import Derived.Test.Qxb6001507aRows
import Derived.WalkKit
import Derived.WalkLawsBesides
import Derived.Outline
namespace Go.Proofs.Qxb6001507a
open Go.RowKit

def bad (c : UInt8) : Prop := c.toNat < 33 ∨ 126 < c.toNat ∨ c.toNat = 34 ∨ c.toNat = 92

set_option maxHeartbeats 400000 in
theorem bytes_any (a b : ByteArray) (w : World) (ha : a.size ≤ maxLen) (hb : b.size ≤ maxLen) :
    Calls Try.prog 7 #[.string a, .string b] w fun e w' => ∃ r : Bool, e = .returned (.bool r) ∧ w' = w := by
  unfold maxLen at ha hb
  go_enter Try.func7, Try.ntmps7
  go_wp2
  all_goals (go_ret; exact ⟨_, rfl, rfl⟩)

set_option maxHeartbeats 400000 in
theorem breaker_any (i : Int) (w : World) (_h0 : 0 ≤ i) (_h9 : i < 9) :
    Calls Try.prog 8 #[.int .i64 i] w fun e w' => ∃ c : UInt8, e = .returned (.string ⟨#[c]⟩) ∧ bad c ∧ w' = w := by
  go_enter Try.func8, Try.ntmps8
  go_wp2
  all_goals (go_ret; exact ⟨_, rfl, by unfold bad; decide, rfl⟩)

set_option maxHeartbeats 400000 in
theorem valid_no (s : ByteArray) (w : World) (hs : s.size ≤ maxLen) (k0 : Nat) (h0 : k0 < s.size) (hb : bad s[k0]) :
    Calls Try.prog 6 #[.string s] w fun e w' => e = .returned (.bool false) ∧ w' = w := by
  unfold maxLen at hs
  have HB : Hid (bad s[k0]) := hb
  clear hb
  go_enter Try.func6, Try.ntmps6
  go_wp2
  · go_ret
    exact ⟨rfl, rfl⟩
  go_loop [2, 3, 4, 9] (fun _ _ _ i => ∃ k : Nat, k ≤ k0 ∧ i = .int .i64 k) (fun _ _ _ i => s.size - (intOf i).toNat)
  case atStart => exact ⟨0, Nat.zero_le _, rfl⟩
  case round =>
    obtain ⟨k, hk, rfl⟩ := hrel
    have hlt : k < s.size := by omega
    go_wp2
    all_goals first
      | (go_ret; exact ⟨rfl, rfl⟩)
      | (go_round
         case rel =>
           refine ⟨_, _, _, _, ⟨k + 1, ?_, rfl⟩, rfl, rfl, rfl, by go_num⟩
           have hne : k ≠ k0 := by
             rintro rfl
             have hb := HB.out
             unfold bad at hb
             simp at *
             omega
           omega
         case measure => simp [intOf]; omega)

theorem app_at (a b : ByteArray) (c : UInt8) : ∃ h : a.size < (a ++ ⟨#[c]⟩ ++ b).size, (a ++ ⟨#[c]⟩ ++ b)[a.size] = c := by
  have hs : (⟨#[c]⟩ : ByteArray).size = 1 := rfl
  refine ⟨by simp [ByteArray.size_append, hs]; omega, ?_⟩
  rw [ByteArray.getElem_append_left (by simp [ByteArray.size_append, hs])]
  rw [ByteArray.getElem_append_right (by simp)]
  simp
  rfl

set_option maxHeartbeats 400000 in
theorem law_any (a b : ByteArray) (w : World) (ha : a.size ≤ maxLen) (hb : b.size ≤ maxLen) :
    Calls Try.prog 4 #[.string a, .string b] w fun e w' => e = .returned (.bool true) ∧ w' = w := by
  have ha' := ha
  have hb' := hb
  unfold maxLen at ha' hb'
  go_enter Try.func4, Try.ntmps4
  go_wp2_with (go_at_call 7; refine (bytes_any _ _ _ ha hb).mono ?_; rintro e w' ⟨r, rfl, rfl⟩; cases r)
  all_goals first
    | (go_ret; exact ⟨rfl, rfl⟩)
    | skip
  go_loop [5] (fun i => ∃ k : Nat, k ≤ 9 ∧ i = .int .i64 k) (fun i => 9 - (intOf i).toNat)
  case atStart => exact ⟨0, Nat.zero_le _, rfl⟩
  case round =>
    obtain ⟨k, hk, rfl⟩ := hrel
    by_cases hlt : k < 9
    · go_wp2_with (go_at_call 8; refine (breaker_any _ _ (by omega) (by omega)).mono ?_; rintro e w' ⟨c, rfl, hc, rfl⟩)
      obtain ⟨hlt', hat⟩ := app_at a b c
      have hsz : (a ++ ⟨#[c]⟩ ++ b).size ≤ maxLen := by
        have hs : (⟨#[c]⟩ : ByteArray).size = 1 := rfl
        unfold maxLen
        simp only [ByteArray.size_append, hs]
        omega
      refine (valid_no _ _ hsz a.size hlt' (by rw [hat]; exact hc)).mono ?_
      rintro e w'' ⟨rfl, rfl⟩
      clear hlt' hat hsz hc
      go_wp2_with fail
      go_round
      case rel => exact ⟨k + 1, by omega, by go_num⟩
      case measure => simp [intOf]; omega
    · go_wp2_with fail
      go_ret
      exact ⟨rfl, rfl⟩
end Go.Proofs.Qxb6001507a
