import Derived.Test.Qxb6002353aTen
import Derived.BigQuiet
namespace Go.Proofs.Qxb6002353a
open Go.RowKit Go.Maps

def OthPost (S : Nat → Prop) (w : World) (F : Fx) (Dd : UInt8 → Prop) (c : Nat) (r : Int) (ab cap : Nat) (L : List Nat) (φ : Nat → UInt8 → Value → Value → Value → Prop) (e : Ending) (w' : World) : Prop :=
  ∃ b, e = .returned (.bool b) ∧ NG S w w' F Dd c r ab cap L φ

set_option maxHeartbeats 16000000 in
set_option maxRecDepth 100000 in
theorem other_any {S : Nat → Prop} {w : World} {F : Fx} {Dd : UInt8 → Prop} {c : Nat} {r : Int} {ab cap : Nat} {L : List Nat} {φ : Nat → UInt8 → Value → Value → Value → Prop} (h : NodeOK S w F Dd c r ab cap L φ) {qb : Nat} {M : Nat → Value} {u : UInt8} (hm : w.rowIs qb 44 10 M) (hh : Head u M) (hq : ¬ S qb) :
    Calls Try.prog 38 #[.pointer (some ⟨F.nb, 0, none⟩), .pointer (some ⟨qb, 0, none⟩)] w (OthPost S w F Dd c r ab cap L φ) := by
  have HN := hide0 h
  have HR := hide0 hm
  have HQ := hide0 hq
  obtain ⟨k, rd, wt, su, ho, di, -, -, -, -, -, e5, e6, -⟩ := hh
  have hml := World.rowIs.lt hm
  clear h hm hq
  go_enter Try.func38, Try.ntmps38
  go_upto_region 2 with (go_at_call 33; refine (held_any HN.out).mono ?_; rintro e w1 ⟨v, rfl, hg1, he1⟩)
  have HG := hide0 hg1
  have hrow := HR.out.of_block (hg1.2.block qb hml HQ.out)
  have m5 : w1.cell? ⟨qb, 5, none⟩ = some (.int .u64 ho) := by rw [← e5]; exact World.rowIs.cell hrow (by omega)
  have m6 : w1.cell? ⟨qb, 6, none⟩ = some (.int .u64 di) := by rw [← e6]; exact World.rowIs.cell hrow (by omega)
  have hml1 := World.rowIs.lt hrow
  obtain ⟨⟨N1, G1, pid1, P1, K1, hn1⟩, -⟩ := hg1
  obtain ⟨z10, -, c10⟩ := hn1.cu 10 (by omega) rfl
  have hnl1 := World.rowIs.lt hn1.nrow
  obtain ⟨xs, hx1, hx2, hx3, -⟩ := he1
  obtain ⟨p9, cp9, e9, -, -⟩ := entries_at hx1
  subst e9
  clear hrow hn1 hx1 hx2 e5 e6
  generalize xs.length = n at *
  by_cases h1 : ho = (n : Int)
  · subst h1
    by_cases h2 : n = 0
    · subst h2
      go_quiet (fail)
      go_wp2_with fail
      go_ret
      exact ⟨_, rfl, HG.out.drewN _⟩
    · have hpos : 0 < n := by omega
      go_quiet (fail)
      go_wp2_with fail
      go_ret
      exact ⟨_, rfl, HG.out.drewN _⟩
  · have hw : IntKind.u64.wrap (n : Int) = (n : Int) := by rw [IntKind.wrap_u64]; omega
    have hbn : (ho == (n : Int)) = false := beq_eq_false_iff_ne.2 h1
    refine wp_region_any (by kernel_rfl) ?_
    try (change wpAny _ _ _ _ _ _ _ (World.drew _))
    refine wpAny_take (i := 0) (v := .pointer (some ⟨qb, 0, none⟩)) rfl (by kernel_rfl) (by kernel_rfl) (by kernel_rfl) (fun _ _ _ h => h) (Or.inl ⟨by kernel_rfl, fun w => by go_simp⟩) ?_
    refine wpAny_take (i := 1) (v := .pointer (some ⟨qb, 0, none⟩)) rfl (by kernel_rfl) (by kernel_rfl) (by kernel_rfl) (fun _ _ _ h => h) (Or.inl ⟨by kernel_rfl, fun w => by go_simp⟩) ?_
    refine wpAny_take (i := 2) (v := .pointer (some ⟨qb, 5, none⟩)) rfl (by kernel_rfl) (by kernel_rfl) (by kernel_rfl) (fun _ _ _ h => h) (Or.inl ⟨by kernel_rfl, fun w => by go_simp⟩) ?_
    refine wpAny_take (i := 4) (v := .slice p9 n cp9) rfl (by kernel_rfl) (by kernel_rfl) (by kernel_rfl) (fun _ _ _ h => h) (Or.inl ⟨by kernel_rfl, fun w => by go_simp⟩) ?_
    refine wpAny_take (i := 5) (v := .int .i64 (n : Int)) rfl (by kernel_rfl) (by kernel_rfl) (by kernel_rfl) (fun _ _ _ h => h) (Or.inl ⟨by kernel_rfl, fun w => by go_simp⟩) ?_
    refine wpAny_take (i := 6) (v := .int .u64 (n : Int)) rfl (by kernel_rfl) (by kernel_rfl) (by kernel_rfl) (fun _ _ _ h => h) (Or.inl ⟨by kernel_rfl, fun w => by go_simp⟩) ?_
    refine wpAny_ready (rs := [3]) (by kernel_rfl) (by simp) ?_
    refine AllReady.cons rfl (fun K hK => ?_) AllReady.nil
    go_simp
    refine hK _ _ ?_
    clear hK K
    refine wpAny_take (i := 7) (v := .bool true) rfl (by kernel_rfl) (by kernel_rfl) (by kernel_rfl) (fun _ _ _ h => h) (Or.inl ⟨by kernel_rfl, fun w => by go_simp⟩) ?_
    refine wpAny_take (i := 8) (v := .bool true) rfl (by kernel_rfl) (by kernel_rfl) (by kernel_rfl) (fun _ _ _ h => h) (Or.inl ⟨by kernel_rfl, fun w => by go_simp⟩) ?_
    refine wpAny_take (i := 9) (v := undef) rfl (by kernel_rfl) (by kernel_rfl) (by kernel_rfl) (fun _ _ _ h => h) (Or.inr ⟨by kernel_rfl, rfl⟩) ?_
    refine wpAny_take (i := 10) (v := undef) rfl (by kernel_rfl) (by kernel_rfl) (by kernel_rfl) (fun _ _ _ h => h) (Or.inr ⟨by kernel_rfl, rfl⟩) ?_
    refine wpAny_take (i := 11) (v := undef) rfl (by kernel_rfl) (by kernel_rfl) (by kernel_rfl) (fun _ _ _ h => h) (Or.inr ⟨by kernel_rfl, rfl⟩) ?_
    refine wpAny_take (i := 12) (v := undef) rfl (by kernel_rfl) (by kernel_rfl) (by kernel_rfl) (fun _ _ _ h => h) (Or.inr ⟨by kernel_rfl, rfl⟩) ?_
    refine wpAny_take (i := 13) (v := undef) rfl (by kernel_rfl) (by kernel_rfl) (by kernel_rfl) (fun _ _ _ h => h) (Or.inr ⟨by kernel_rfl, rfl⟩) ?_
    refine wpAny_take (i := 14) (v := undef) rfl (by kernel_rfl) (by kernel_rfl) (by kernel_rfl) (fun _ _ _ h => h) (Or.inr ⟨by kernel_rfl, rfl⟩) ?_
    refine wpAny_take (i := 15) (v := undef) rfl (by kernel_rfl) (by kernel_rfl) (by kernel_rfl) (fun _ _ _ h => h) (Or.inr ⟨by kernel_rfl, rfl⟩) ?_
    refine wpAny_take (i := 16) (v := undef) rfl (by kernel_rfl) (by kernel_rfl) (by kernel_rfl) (fun _ _ _ h => h) (Or.inr ⟨by kernel_rfl, rfl⟩) ?_
    refine wpAny_take (i := 17) (v := undef) rfl (by kernel_rfl) (by kernel_rfl) (by kernel_rfl) (fun _ _ _ h => h) (Or.inr ⟨by kernel_rfl, rfl⟩) ?_
    refine wpAny_take (i := 18) (v := undef) rfl (by kernel_rfl) (by kernel_rfl) (by kernel_rfl) (fun _ _ _ h => h) (Or.inr ⟨by kernel_rfl, rfl⟩) ?_
    refine wpAny_take (i := 19) (v := undef) rfl (by kernel_rfl) (by kernel_rfl) (by kernel_rfl) (fun _ _ _ h => h) (Or.inr ⟨by kernel_rfl, rfl⟩) ?_
    refine wpAny_take (i := 20) (v := undef) rfl (by kernel_rfl) (by kernel_rfl) (by kernel_rfl) (fun _ _ _ h => h) (Or.inr ⟨by kernel_rfl, rfl⟩) ?_
    refine wpAny_take (i := 21) (v := undef) rfl (by kernel_rfl) (by kernel_rfl) (by kernel_rfl) (fun _ _ _ h => h) (Or.inr ⟨by kernel_rfl, rfl⟩) ?_
    refine wpAny_take (i := 22) (v := undef) rfl (by kernel_rfl) (by kernel_rfl) (by kernel_rfl) (fun _ _ _ h => h) (Or.inr ⟨by kernel_rfl, rfl⟩) ?_
    refine wpAny_take (i := 23) (v := .bool true) rfl (by kernel_rfl) (by kernel_rfl) (by kernel_rfl) (fun _ _ _ h => h) (Or.inl ⟨by kernel_rfl, fun w => by go_simp⟩) ?_
    refine wpAny_ready (rs := [24]) (by kernel_rfl) (by simp) ?_
    refine AllReady.cons rfl (fun K hK => ?_) AllReady.nil
    go_simp
    refine hK _ _ ?_
    clear hK K
    refine wpAny_done (by kernel_rfl) ?_ _
    go_wp2_with fail
    go_ret
    exact ⟨_, rfl, HG.out.drewN _⟩
end Go.Proofs.Qxb6002353a
