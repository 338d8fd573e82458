import Derived.Test.Qxb6002353aRows
import Derived.WalkKit
import Derived.WalkLawsBesides
import Derived.WalkSpells
import Derived.OwnWalk
import Derived.WalkSmall
import Derived.Outline
import Derived.Laws.FloatArith
import Derived.Deep.Draws
namespace Go.Proofs.Qxb6002353a
open Go.RowKit

/-- some uint64 comes back; the world is as it was, but for draws -/
def U64 (w : World) (e : Ending) (w' : World) : Prop := ∃ (z : Int) (q : Nat), 0 ≤ z ∧ e = .returned (.int .u64 z) ∧ w' = w.drewN q

theorem run_farith (op : BinOp) (hop : op = .mul ∨ op = .quo) (t : TypeId) (x y : Nat) (w : World) : ∃ r q, (binOp op t (.float .f64 x) (.float .f64 y)).run Try.prog w = .ok (.float .f64 r) (w.drewN q) := by
  rcases hop with rfl | rfl
  · cases h : FloatKind.f64.format.mul x y with
    | some r => exact ⟨r, 0, by simp [binOp, Op.floatArith, h]; rfl⟩
    | none => exact ⟨_, 1, by simp [binOp, Op.floatArith, h]; rfl⟩
  · cases h : FloatKind.f64.format.div x y with
    | some r => exact ⟨r, 0, by simp [binOp, Op.floatArith, h]; rfl⟩
    | none => exact ⟨_, 1, by simp [binOp, Op.floatArith, h]; rfl⟩

set_option maxHeartbeats 1000000 in
set_option maxRecDepth 100000 in
theorem wait_any (m x : Int) (w : World) : Calls Try.prog 46 #[.int .u64 m, .int .u64 x] w (U64 w) := by
  by_cases h0 : (m == 0) = true
  · go_enter Try.func46, Try.ntmps46
    go_wp2
    go_ret
    exact ⟨0, 0, by omega, rfl, rfl⟩
  · have h0' : (m == 0) = false := by simpa using h0
    clear h0
    obtain ⟨r1, q1, e1⟩ := run_farith .quo (.inr rfl) 115 (floatOfInt .f64 m) (floatOfInt .f64 x) w
    obtain ⟨r2, q2, e2⟩ := run_farith .mul (.inl rfl) 115 r1 r1 (w.drewN q1)
    go_enter Try.func46, Try.ntmps46
    go_wp2
    go_loopw [7, 8] (fun a b wr => ∃ (k q c : Nat), k ≤ 1024 ∧ a = .int .u64 k ∧ b = .float .f64 c ∧ wr = w.drewN q) (fun a _ _ => 1024 - (intOf a).toNat)
    case atStart => exact ⟨0, _, r2, by omega, rfl, rfl, rfl⟩
    case round =>
      obtain ⟨k, q, c, hk, rfl, rfl, rfl⟩ := hrel
      clear e1 e2
      obtain ⟨r3, q3, e3⟩ := run_farith .mul (.inl rfl) 115 c r2 (w.drewN q)
      by_cases hlt : k < 1024
      · go_wp2
        · go_roundw
          case rel => exact ⟨k + 1, _, r3, by omega, by go_num, rfl, rfl⟩
          case measure => simp [intOf]; omega
        · go_ret
          exact ⟨k, q, by omega, rfl, rfl⟩
      · go_wp2
        all_goals go_ret
        all_goals exact ⟨k, q, by omega, rfl, rfl⟩
end Go.Proofs.Qxb6002353a
