import Derived.Test.Qxb6003388aRows
import Derived.WalkKit
import Derived.WalkLawsBesides
import Derived.OwnWalk
import Derived.WalkSpells
import Derived.Maps.OwnSet
import Derived.Maps.OwnOps
import Derived.Maps.RangeWalk
import Derived.Deep.OwnRows
namespace Go.Proofs.Qxb6003388a
open Go.RowKit Go.Maps

theorem law3 : Keyed Try.prog 3 := int_keyed Try.underlying3
theorem zero46 (w : World) : (zeroValue 46).run Try.prog w = .ok (.int .u8 0) w := by kernel_rfl
theorem wf64 {r n : Nat} (h : r < n) (hn : n ≤ 65536) : (Lit.int .i64 (r : Int)).wf = true := WalkArith.wf_i64 (by omega)

/-- the map D reads, at each child r below n, as the edge f r; it holds no other key -/
def Reads (n : Nat) (D : DataW Unit) (f : Nat → Int) : Prop :=
  (∀ r : Nat, r < n → D.atKey (.int .i64 r) (.lit (.int .u8 0)) = .lit (.int .u8 (f r))) ∧ ∀ kl, Maps.has D kl = true → ∃ r : Nat, r < n ∧ kl = .int .i64 r

/-- block eb is the struct of the two fields m and d -/
def Two (w : World) (eb : Nat) (m : Option Nat) (d : Value) : Prop := w.rowIs eb 44 2 (fun i => if i = 0 then .map m else d)

theorem Two.c0 {w : World} {eb : Nat} {m : Option Nat} {d : Value} (h : Two w eb m d) : w.cell? ⟨eb, 0, none⟩ = some (.map m) := by
  have := World.rowIs.cell h (i := 0) (by omega); simpa using this
theorem Two.c1 {w : World} {eb : Nat} {m : Option Nat} {d : Value} (h : Two w eb m d) : w.cell? ⟨eb, 1, none⟩ = some d := by
  have := World.rowIs.cell h (i := 1) (by omega); simpa using this

def Sparse0 (w : World) (eb n : Nat) (f : Nat → Int) : Prop := Two w eb none (.slice none 0 0) ∧ ∀ r, r < n → f r = 0
def Sparse (w : World) (eb n c mb : Nat) (D : DataW Unit) (f : Nat → Int) : Prop :=
  eb < mb ∧ Two w eb (some mb) (.slice none 0 0) ∧ w.ownsMap Try.prog 3 (plainElem Try.prog 46) mb c D ∧ Reads n D f
def Dense (w : World) (eb n db : Nat) (f : Nat → Int) : Prop :=
  eb < db ∧ Two w eb none (.slice (some ⟨db, 0, none⟩) n n) ∧ w.rowIs db 46 n (fun i => .int .u8 (f i))

/-- WHAT THE EDGES AT BLOCK eb HOLD: f r for each child r below n -/
def Rep (w : World) (eb n c : Nat) (f : Nat → Int) : Prop :=
  Sparse0 w eb n f ∨ (∃ mb D, Sparse w eb n c mb D f) ∨ ∃ db, Dense w eb n db f

set_option maxHeartbeats 400000 in
theorem get0 (w : World) (eb n : Nat) (f : Nat → Int) (r : Nat) (hr : r < n) (hn : n ≤ 65536) (h : Sparse0 w eb n f) :
    Calls Try.prog 18 #[.pointer (some ⟨eb, 0, none⟩), .int .i64 r] w fun e w' => e = .returned (.int .u8 (f r)) ∧ w' = w := by
  obtain ⟨h2, hf⟩ := h
  have c0 := h2.c0
  have c1 := h2.c1
  have e0 := hf r hr
  rw [e0]
  clear hf e0 h2
  have hn1 := fun w => run_neq_slice_nil_any (P := Try.prog) w 42 46 none 0 0 0 0 Try.underlying42
  have hl := look_nil (w := w) false law3 Try.underlying41 (zero46 _) (keyOf_int_mk Try.underlying3 (wf64 hr hn))
  go_enter Try.func18, Try.ntmps18
  go_wp2
  go_ret
  exact ⟨rfl, rfl⟩

set_option maxHeartbeats 400000 in
theorem get1 (w : World) (eb n c mb : Nat) (D : DataW Unit) (f : Nat → Int) (r : Nat) (hr : r < n) (hn : n ≤ 65536) (h : Sparse w eb n c mb D f) :
    Calls Try.prog 18 #[.pointer (some ⟨eb, 0, none⟩), .int .i64 r] w fun e w' => e = .returned (.int .u8 (f r)) ∧ w' = w := by
  obtain ⟨_, h2, hown, hD⟩ := h
  have c0 := h2.c0
  have c1 := h2.c1
  have HA : Hid (D.atKey (.int .i64 r) (.lit (.int .u8 0)) = .lit (.int .u8 (f r))) := hD.1 r hr
  clear hD h2
  have hn1 := fun w => run_neq_slice_nil_any (P := Try.prog) w 42 46 none 0 0 0 0 Try.underlying42
  go_enter Try.func18, Try.ntmps18
  go_wp2_with (first
    | (at_lookup; refine wpList_lookup_own_int _ rfl _ _ 41 rfl 3 46 .u8 law3 Try.underlying41 Try.underlying46 (zero46 _) mb c D rfl hown _ _ rfl (keyOf_int_mk Try.underlying3 (wf64 hr hn)) ?_; intro v hat hwv)
    | go_in)
  go_ret
  have e := hat.symm.trans HA.out
  simp only [DataW.lit.injEq, Lit.int.injEq] at e
  exact ⟨by rw [← e.2]; rfl, rfl⟩

set_option maxHeartbeats 400000 in
theorem get2 (w : World) (eb n db : Nat) (f : Nat → Int) (r : Nat) (hr : r < n) (h : Dense w eb n db f) :
    Calls Try.prog 18 #[.pointer (some ⟨eb, 0, none⟩), .int .i64 r] w fun e w' => e = .returned (.int .u8 (f r)) ∧ w' = w := by
  obtain ⟨_, h2, hd⟩ := h
  have c0 := h2.c0
  have c1 := h2.c1
  have cr := World.rowIs.cell hd hr
  clear hd h2
  have hn1 := fun w => run_neq_slice_nil_any (P := Try.prog) w 42 46 (some ⟨db, 0, none⟩) n n 0 0 Try.underlying42
  go_enter Try.func18, Try.ntmps18
  go_wp2
  go_ret
  exact ⟨rfl, rfl⟩

theorem get_any (w : World) (eb n c : Nat) (f : Nat → Int) (r : Nat) (hr : r < n) (hn : n ≤ 65536) (h : Rep w eb n c f) :
    Calls Try.prog 18 #[.pointer (some ⟨eb, 0, none⟩), .int .i64 r] w fun e w' => e = .returned (.int .u8 (f r)) ∧ w' = w := by
  rcases h with h | ⟨mb, D, h⟩ | ⟨db, h⟩
  · exact get0 w eb n f r hr hn h
  · exact get1 w eb n c mb D f r hr hn h
  · exact get2 w eb n db f r hr h

theorem zget_any (w : World) (eb n c : Nat) (f : Nat → Int) (r : Nat) (hr : r < n) (hn : n ≤ 65536) (h : Rep w eb n c f) :
    Calls Try.prog 10 #[.pointer (some ⟨eb, 0, none⟩), .int .i64 r] w fun e w' => e = .returned (.int .u8 (f r)) ∧ w' = w := by
  have HC := get_any w eb n c f r hr hn h
  clear h
  go_enter Try.func10, Try.ntmps10
  go_wp2_with (go_at_call 18; refine HC.mono ?_; rintro e w' ⟨rfl, rfl⟩)
  go_ret
  exact ⟨rfl, rfl⟩
end Go.Proofs.Qxb6003388a
