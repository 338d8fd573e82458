import Derived.Test.Qxb6000959aRows
import Derived.WalkKit
import Derived.WalkLawsBesides
import Derived.OwnWalk
namespace Go.Proofs.Qxb6000959a
open Go.RowKit

set_option maxHeartbeats 400000 in
theorem bytes_any (a b c : ByteArray) (d : Bool) (w : World) (ha : a.size ≤ maxLen) (hb : b.size ≤ maxLen) (hc : c.size ≤ maxLen) :
    Calls Try.prog 21 #[.string a, .string b, .string c, .bool d] w fun e w' => ∃ r : Bool, e = .returned (.bool r) ∧ w' = w := by
  unfold maxLen at ha hb hc
  go_enter Try.func21, Try.ntmps21
  go_wp2
  all_goals (go_ret; exact ⟨_, rfl, rfl⟩)

/-- no byte of s from place a up to place m (left out) is 93, the closing bracket -/
def free (s : ByteArray) (a m : Nat) : Prop := ∀ j (h : j < s.size), a ≤ j → j < m → s[j].toNat ≠ 93

def HPost (s : ByteArray) (w : World) (e : Ending) (w' : World) : Prop := ∃ r : Bool, e = .returned (.bool r) ∧ (r = false → free s 0 s.size) ∧ w' = w

set_option maxHeartbeats 400000 in
theorem holds_any (s : ByteArray) (w : World) (hs : s.size ≤ maxLen) :
    Calls Try.prog 19 #[.string s, .int .u8 93] w (HPost s w) := by
  unfold maxLen at hs
  go_enter Try.func19, Try.ntmps19
  go_wp2
  go_loop [5] (fun i => ∃ k : Nat, k ≤ s.size ∧ i = .int .i64 k ∧ free s 0 k) (fun i => s.size - (intOf i).toNat)
  case atStart => exact ⟨0, Nat.zero_le _, rfl, fun j _ _ h => by omega⟩
  case round =>
    obtain ⟨k, hk, rfl, hf⟩ := hrel
    have HF : Hid (free s 0 k) := hf
    clear hf
    by_cases hlt : k < s.size
    · go_wp2
      · go_ret
        exact ⟨true, rfl, by simp, rfl⟩
      · go_round
        case rel =>
          refine ⟨k + 1, by omega, by go_num, ?_⟩
          intro j h h1 h2
          by_cases e : j = k
          · subst e
            simp at *
            omega
          · exact HF.out j h h1 (by omega)
        case measure => simp [intOf]; omega
    · go_wp2
      go_ret
      refine ⟨false, rfl, fun _ => ?_, rfl⟩
      have : k = s.size := by omega
      subst this
      exact HF.out

set_option maxHeartbeats 400000 in
theorem class_no (g : ByteArray) (i m : Nat) (w : World) (hg : g.size ≤ 1000000) (hi : i + 2 ≤ m) (hm : m ≤ g.size) (hf : free g (i + 2) m)
    (hbr : ∀ h : m < g.size, g[m].toNat = 93) (he : ∀ h : m < g.size, i + 2 < m → (g[m - 1]'(by omega)).toNat ≠ 58) :
    Calls Try.prog 28 #[.string g, .int .i64 i] w fun e w' => e = .returned (.tuple #[.string ByteArray.empty, .int .i64 0, .bool false]) ∧ w' = w := by
  have HF : Hid (free g (i + 2) m) := hf
  have HE : Hid (∀ h : m < g.size, i + 2 < m → (g[m - 1]'(by omega)).toNat ≠ 58) := he
  have HB : Hid (∀ h : m < g.size, g[m].toNat = 93) := hbr
  clear hf he hbr
  go_enter Try.func28, Try.ntmps28
  go_wp2
  go_loop [7] (fun x => ∃ k : Nat, i + 2 ≤ k ∧ k ≤ m ∧ x = .int .i64 k) (fun x => g.size - (intOf x).toNat)
  case atStart => exact ⟨i + 2, by omega, by omega, by go_num⟩
  case round =>
    obtain ⟨k, hk1, hk2, rfl⟩ := hrel
    by_cases hkm : k < m
    · have hne : ((g[k].toNat : Int) == 93) = false := by
        have := HF.out k (by omega) hk1 hkm
        simp
        omega
      go_wp2
      go_round
      case rel => exact ⟨k + 1, by omega, by omega, by go_num⟩
      case measure => simp [intOf]; omega
    · have hkm' : k = m := by omega
      subst hkm'
      by_cases hlt : k < g.size
      · have hbr : ((g[k].toNat : Int) == 93) = true := by
          have := HB.out hlt
          simp
          omega
        by_cases hin : i + 2 < k
        · have hne : ((g[k - 1].toNat : Int) == 58) = false := by
            have := HE.out hlt hin
            simp
            omega
          go_wp2
          go_ret3
          exact ⟨rfl, rfl⟩
        · go_wp2
          go_ret3
          exact ⟨rfl, rfl⟩
      · go_wp2
        go_ret3
        exact ⟨rfl, rfl⟩

theorem zz_no (g : ByteArray) (i m : Nat) (w : World) (hg : g.size ≤ 1000000) (hi : i + 2 ≤ m) (hm : m ≤ g.size) (hf : free g (i + 2) m)
    (hbr : ∀ h : m < g.size, g[m].toNat = 93) (he : ∀ h : m < g.size, i + 2 < m → (g[m - 1]'(by omega)).toNat ≠ 58) :
    Calls Try.prog 20 #[.string g, .int .i64 i] w fun e w' => e = .returned (.tuple #[.string ByteArray.empty, .int .i64 0, .bool false]) ∧ w' = w := by
  have HC := class_no g i m w hg hi hm hf hbr he
  clear hf hbr he
  go_enter Try.func20, Try.ntmps20
  go_wp2_with (go_at_call 28; refine HC.mono ?_; rintro e w' ⟨rfl, rfl⟩)
  go_ret3
  exact ⟨rfl, rfl⟩

theorem free_two {q b : ByteArray} (h : free b 0 b.size) : free (q ++ b) q.size (q.size + b.size) := by
  intro j hj h1 h2
  rw [ByteArray.getElem_append_right (by omega)]
  exact h _ _ (Nat.zero_le _) (by omega)
theorem free_left {q r : ByteArray} {a m : Nat} (hm : m ≤ q.size) (h : free q a m) : free (q ++ r) a m := by
  intro j hj h1 h2
  rw [ByteArray.getElem_append_left (by omega)]
  exact h _ _ h1 h2
theorem free_join {s : ByteArray} {a m n : Nat} (h1 : free s a m) (h2 : free s m n) : free s a n := by
  intro j hj h3 h4
  by_cases e : j < m
  · exact h1 j hj h3 e
  · exact h2 j hj (by omega) h4

def br : ByteArray := ⟨#[91, 58]⟩
def cl : ByteArray := ⟨#[93]⟩
theorem br_size : br.size = 2 := rfl
theorem cl_size : cl.size = 1 := rfl

theorem open_no (p b : ByteArray) (w : World) (hp : p.size ≤ 65536) (hb : b.size ≤ 65536) (hf : free b 0 b.size) :
    Calls Try.prog 20 #[.string (p ++ br ++ b), .int .i64 p.size] w fun e w' => e = .returned (.tuple #[.string ByteArray.empty, .int .i64 0, .bool false]) ∧ w' = w := by
  have hs : (p ++ br ++ b).size = p.size + 2 + b.size := by simp [ByteArray.size_append, br_size]
  have hq : (p ++ br).size = p.size + 2 := by simp [ByteArray.size_append, br_size]
  refine zz_no _ p.size (p.size + 2 + b.size) w (by omega) (by omega) (by omega) ?_ (fun h => by omega) (fun h => by omega)
  have := free_two (q := p ++ br) hf
  rw [hq] at this
  exact this

theorem open_no2 (p b s : ByteArray) (w : World) (hp : p.size ≤ 65536) (hb : b.size ≤ 65536) (hs : s.size ≤ 65536) (hf : free b 0 b.size) (hf2 : free s 0 s.size) :
    Calls Try.prog 20 #[.string (p ++ br ++ b ++ s), .int .i64 p.size] w fun e w' => e = .returned (.tuple #[.string ByteArray.empty, .int .i64 0, .bool false]) ∧ w' = w := by
  have hz : (p ++ br ++ b ++ s).size = p.size + 2 + b.size + s.size := by simp [ByteArray.size_append, br_size]
  have hq : (p ++ br).size = p.size + 2 := by simp [ByteArray.size_append, br_size]
  have hr : (p ++ br ++ b).size = p.size + 2 + b.size := by simp [ByteArray.size_append, br_size]
  refine zz_no _ p.size (p.size + 2 + b.size + s.size) w (by omega) (by omega) (by omega) ?_ (fun h => by omega) (fun h => by omega)
  have h1 := free_two (q := p ++ br) hf
  rw [hq] at h1
  have h2 := free_two (q := p ++ br ++ b) hf2
  rw [hr] at h2
  exact free_join (free_left (by omega) h1) h2

theorem shut_no (p b s : ByteArray) (w : World) (hp : p.size ≤ 65536) (hb : b.size ≤ 65536) (hs : s.size ≤ 65536) (hf : free b 0 b.size)
    (hl : ∀ h : 0 < b.size, (b[b.size - 1]'(by omega)).toNat ≠ 58) :
    Calls Try.prog 20 #[.string (p ++ br ++ b ++ cl ++ s), .int .i64 p.size] w fun e w' => e = .returned (.tuple #[.string ByteArray.empty, .int .i64 0, .bool false]) ∧ w' = w := by
  have hz : (p ++ br ++ b ++ cl ++ s).size = p.size + 2 + b.size + 1 + s.size := by simp [ByteArray.size_append, br_size, cl_size]
  have hq : (p ++ br).size = p.size + 2 := by simp [ByteArray.size_append, br_size]
  have hr : (p ++ br ++ b).size = p.size + 2 + b.size := by simp [ByteArray.size_append, br_size]
  have ht : (p ++ br ++ b ++ cl).size = p.size + 2 + b.size + 1 := by simp [ByteArray.size_append, br_size, cl_size]
  refine zz_no _ p.size (p.size + 2 + b.size) w (by omega) (by omega) (by omega) ?_ (fun h => ?_) (fun h h2 => ?_)
  · have h1 := free_two (q := p ++ br) hf
    rw [hq] at h1
    exact free_left (by omega) (free_left (by omega) h1)
  · rw [ByteArray.getElem_append_left (by omega)]
    rw [ByteArray.getElem_append_right (by omega)]
    have : p.size + 2 + b.size - (p ++ br ++ b).size = 0 := by omega
    simp only [this]
    rfl
  · rw [ByteArray.getElem_append_left (by omega)]
    rw [ByteArray.getElem_append_left (by omega)]
    rw [ByteArray.getElem_append_right (by omega)]
    have : p.size + 2 + b.size - 1 - (p ++ br).size = b.size - 1 := by omega
    simp only [this]
    exact hl (by omega)

set_option maxHeartbeats 400000 in
theorem law_any (a b c : ByteArray) (d : Bool) (w : World) (ha : a.size ≤ maxLen) (hb : b.size ≤ maxLen) (hc : c.size ≤ maxLen) :
    Calls Try.prog 7 #[.string a, .string b, .string c, .bool d] w fun e w' => e = .returned (.bool true) ∧ w' = w := by
  have ha' := ha
  have hb' := hb
  have hc' := hc
  unfold maxLen at ha' hb' hc'
  by_cases h1 : (65536 : Int) < a.size
  · go_enter Try.func7, Try.ntmps7
    go_wp2_with (go_at_call 21; refine (bytes_any _ _ _ _ _ ha hb hc).mono ?_; rintro e w' ⟨r, rfl, rfl⟩; cases r)
    all_goals (go_ret; exact ⟨rfl, rfl⟩)
  by_cases h2 : (65536 : Int) < b.size
  · go_enter Try.func7, Try.ntmps7
    go_wp2_with (go_at_call 21; refine (bytes_any _ _ _ _ _ ha hb hc).mono ?_; rintro e w' ⟨r, rfl, rfl⟩; cases r)
    all_goals (go_ret; exact ⟨rfl, rfl⟩)
  by_cases h3 : (65536 : Int) < c.size
  · go_enter Try.func7, Try.ntmps7
    go_wp2_with (go_at_call 21; refine (bytes_any _ _ _ _ _ ha hb hc).mono ?_; rintro e w' ⟨r, rfl, rfl⟩; cases r)
    all_goals (go_ret; exact ⟨rfl, rfl⟩)
  have p1 : a.size ≤ 65536 := by omega
  have p2 : b.size ≤ 65536 := by omega
  have p3 : c.size ≤ 65536 := by omega
  cases d
  · go_enter Try.func7, Try.ntmps7
    go_wp2_with (first
      | (go_at_call 21; refine (bytes_any _ _ _ _ _ ha hb hc).mono ?_; rintro e w' ⟨r, rfl, rfl⟩; cases r))
    · go_ret
      exact ⟨rfl, rfl⟩
    refine (holds_any b _ hb).mono ?_
    rintro e w' ⟨r, rfl, hr, rfl⟩
    cases r
    · have hf := hr rfl
      have HF : Hid (free b 0 b.size) := hf
      clear hr hf
      go_wp2_with fail
      refine (holds_any c _ hc).mono ?_
      rintro e w' ⟨r, rfl, hr, rfl⟩
      cases r
      · have HG : Hid (free c 0 c.size) := hr rfl
        clear hr
        go_wp2_with fail
        refine (open_no2 a b c _ p1 p2 p3 HF.out HG.out).mono ?_
        rintro e w' ⟨rfl, rfl⟩
        go_wp2_with fail
        go_ret
        exact ⟨rfl, rfl⟩
      · clear hr
        go_wp2_with fail
        refine (open_no a b _ p1 p2 HF.out).mono ?_
        rintro e w' ⟨rfl, rfl⟩
        go_wp2_with fail
        go_ret
        exact ⟨rfl, rfl⟩
    · clear hr
      go_wp2_with fail
      go_ret
      exact ⟨rfl, rfl⟩
  · go_enter Try.func7, Try.ntmps7
    go_wp2_with (first
      | (go_at_call 21; refine (bytes_any _ _ _ _ _ ha hb hc).mono ?_; rintro e w' ⟨r, rfl, rfl⟩; cases r))
    · go_ret
      exact ⟨rfl, rfl⟩
    refine (holds_any b _ hb).mono ?_
    rintro e w' ⟨r, rfl, hr, rfl⟩
    cases r
    · have hf := hr rfl
      have HF : Hid (free b 0 b.size) := hf
      clear hr hf
      go_wp2_with fail
      · go_ret
        exact ⟨rfl, rfl⟩
      · refine (shut_no a b c _ p1 p2 p3 HF.out (fun _ => ?_)).mono ?_
        · simp at *
          omega
        rintro e w' ⟨rfl, rfl⟩
        go_wp2_with fail
        go_ret
        exact ⟨rfl, rfl⟩
      · refine (shut_no a b c _ p1 p2 p3 HF.out (fun _ => by omega)).mono ?_
        rintro e w' ⟨rfl, rfl⟩
        go_wp2_with fail
        go_ret
        exact ⟨rfl, rfl⟩
    · clear hr
      go_wp2_with fail
      go_ret
      exact ⟨rfl, rfl⟩
end Go.Proofs.Qxb6000959a
