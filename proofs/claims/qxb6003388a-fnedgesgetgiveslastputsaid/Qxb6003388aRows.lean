/-
  No cell of these rows narrows 'for every input' (looked for: loops, veiled, ifaces, maps, wideKeys, modest, calm, conditions, laid).
  DERIVED. THE GIVEN ROWS OF THIS SEAT. 2 by the template 'for every input the law returns true; each argument reads behind the call as it read before'; 0 by the template 'total and deterministic' (their statements: Qxb6003388aTotals.lean).
  GIVEN WITH THE SEED: the statements are not yours to turn. If you find one false, say at which input.
  Laid BY PROGRAM, IN A SANDBOX (cutbox-rows.mjs): the forced cells as the released guide's own fill.sh prints them over the translation 50c0c2a0548c1926… (all of the seat's roots in one cut). By AI agents, Wed Nov 11 2026. No macro, syntax, notation, axiom, sorry.
-/
import Derived.Test.Qxb6003388aChecked
import GoSem.Claim
import GoSem.ClaimJoined
import GoSem.ClaimMapViews
import Derived.JoinedTies
import Derived.KernelRfl
namespace Go.Proofs.Qxb6003388a
/- THE CELL 'sum', in the pinned program and in every row, IS THE sha256 OF THE DUMP (.gsa) THAT Qxb6003388aProg.lean LOADS. Nothing in Lean hashes anything: it is a label: what it is worth is what the hold of that sum in a sandbox is worth. -/
noncomputable def Try.pinned : Pinned := { name := "qxb6003388a", sum := "50c0c2a0548c19261003a2d1be2e8c8333bc3648b8c2deb3f396a24c1b352a4b", checked := Try.checked }
namespace Rows
def none {H : Type} : Left H := { results := [], args := [] }

/-- 'zzlaws_root_g1.FnEdgesGetGivesLastPut': WHATEVER THE INPUT: true; the input reads as it did. -/
def fnEdgesGetGivesLastPutSpec : ChangeSpec := { name := "fnEdgesGetGivesLastPut", fn := fun _ => fun
  | [d1, d2, d3] => { results := [.lit (.bool true)], args := [d1, d2, d3] }
  | _ => none }
def fnEdgesGetGivesLastPutRow : OpenClaim := { program := "qxb6003388a", sum := "50c0c2a0548c19261003a2d1be2e8c8333bc3648b8c2deb3f396a24c1b352a4b", func := "example.com/firethorn/firethorn/zzlaws_root_g1.FnEdgesGetGivesLastPut", spec := "fnEdgesGetGivesLastPut", apart := false }
def FnEdgesGetGivesLastPutSaid : Prop := fnEdgesGetGivesLastPutRow.holds Try.pinned (OpenSpec.ofChange fnEdgesGetGivesLastPutSpec)

/-- ITS FALSE NEIGHBOUR: 'it returns false'. Refute it at one input. -/
def fnEdgesGetGivesLastPutWrong : ChangeSpec := { name := "fnEdgesGetGivesLastPut", fn := fun _ => fun
  | [d1, d2, d3] => { results := [.lit (.bool false)], args := [d1, d2, d3] }
  | _ => none }
def FnEdgesGetGivesLastPutWrongFalsely : Prop := fnEdgesGetGivesLastPutRow.holds Try.pinned (OpenSpec.ofChange fnEdgesGetGivesLastPutWrong)

/-- 'zzlaws_root_g1.FnObligationIDsAndIsIntersection': WHATEVER THE INPUT: true; the input reads as it did. -/
def fnObligationIDsAndIsIntersectionSpec : ChangeSpec := { name := "fnObligationIDsAndIsIntersection", fn := fun _ => fun
  | [d1, d2, d3, d4, d5] => { results := [.lit (.bool true)], args := [d1, d2, d3, d4, d5] }
  | _ => none }
def fnObligationIDsAndIsIntersectionRow : OpenClaim := { program := "qxb6003388a", sum := "50c0c2a0548c19261003a2d1be2e8c8333bc3648b8c2deb3f396a24c1b352a4b", func := "example.com/firethorn/firethorn/zzlaws_root_g1.FnObligationIDsAndIsIntersection", spec := "fnObligationIDsAndIsIntersection", inPlace := ["internal/abi.NoEscape", "internal/bytealg.MakeNoZero"], unfollowed := true, recurses := true, apart := false }
def FnObligationIDsAndIsIntersectionSaid : Prop := fnObligationIDsAndIsIntersectionRow.holds Try.pinned (OpenSpec.ofChange fnObligationIDsAndIsIntersectionSpec)

/-- ITS FALSE NEIGHBOUR: 'it returns false'. Refute it at one input. -/
def fnObligationIDsAndIsIntersectionWrong : ChangeSpec := { name := "fnObligationIDsAndIsIntersection", fn := fun _ => fun
  | [d1, d2, d3, d4, d5] => { results := [.lit (.bool false)], args := [d1, d2, d3, d4, d5] }
  | _ => none }
def FnObligationIDsAndIsIntersectionWrongFalsely : Prop := fnObligationIDsAndIsIntersectionRow.holds Try.pinned (OpenSpec.ofChange fnObligationIDsAndIsIntersectionWrong)

end Rows
end Go.Proofs.Qxb6003388a
