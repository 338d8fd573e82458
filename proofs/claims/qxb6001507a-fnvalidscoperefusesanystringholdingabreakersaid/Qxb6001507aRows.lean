/-
  No cell of these rows narrows 'for every input' (looked for: loops, veiled, ifaces, maps, wideKeys, modest, calm, conditions, laid).
  DERIVED. THE GIVEN ROWS OF THIS SEAT. 2 by the template 'for every input the law returns true; each argument reads behind the call as it read before'; 0 by the template 'total and deterministic' (their statements: Qxb6001507aTotals.lean).
  GIVEN WITH THE SEED: the statements are not yours to turn. If you find one false, say at which input.
  Laid BY PROGRAM, IN A SANDBOX (cutbox-rows.mjs): the forced cells as the released guide's own fill.sh prints them over the translation 189ba57ad59aba5c… (all of the seat's roots in one cut). By AI agents, Wed Nov 11 2026. No macro, syntax, notation, axiom, sorry.
-/
import Derived.Test.Qxb6001507aChecked
import GoSem.Claim
import GoSem.ClaimJoined
import GoSem.ClaimMapViews
import Derived.JoinedTies
import Derived.KernelRfl
namespace Go.Proofs.Qxb6001507a
/- THE CELL 'sum', in the pinned program and in every row, IS THE sha256 OF THE DUMP (.gsa) THAT Qxb6001507aProg.lean LOADS. Nothing in Lean hashes anything: it is a label: what it is worth is what the hold of that sum in a sandbox is worth. -/
noncomputable def Try.pinned : Pinned := { name := "qxb6001507a", sum := "189ba57ad59aba5c046da2aa4448af225756129eda2420208faff8d84fef4db6", checked := Try.checked }
namespace Rows
def none {H : Type} : Left H := { results := [], args := [] }

/-- 'zzlaws_root_b1.FnValidScopeConcatenation': WHATEVER THE INPUT: true; the input reads as it did. -/
def fnValidScopeConcatenationSpec : ChangeSpec := { name := "fnValidScopeConcatenation", fn := fun _ => fun
  | [d1, d2] => { results := [.lit (.bool true)], args := [d1, d2] }
  | _ => none }
def fnValidScopeConcatenationRow : OpenClaim := { program := "qxb6001507a", sum := "189ba57ad59aba5c046da2aa4448af225756129eda2420208faff8d84fef4db6", func := "example.com/rekv/rekv/zzlaws_root_b1.FnValidScopeConcatenation", spec := "fnValidScopeConcatenation", apart := false }
def FnValidScopeConcatenationSaid : Prop := fnValidScopeConcatenationRow.holds Try.pinned (OpenSpec.ofChange fnValidScopeConcatenationSpec)

/-- ITS FALSE NEIGHBOUR: 'it returns false'. Refute it at one input. -/
def fnValidScopeConcatenationWrong : ChangeSpec := { name := "fnValidScopeConcatenation", fn := fun _ => fun
  | [d1, d2] => { results := [.lit (.bool false)], args := [d1, d2] }
  | _ => none }
def FnValidScopeConcatenationWrongFalsely : Prop := fnValidScopeConcatenationRow.holds Try.pinned (OpenSpec.ofChange fnValidScopeConcatenationWrong)

/-- 'zzlaws_root_b1.FnValidScopeRefusesAnyStringHoldingABreaker': WHATEVER THE INPUT: true; the input reads as it did. -/
def fnValidScopeRefusesAnyStringHoldingABreakerSpec : ChangeSpec := { name := "fnValidScopeRefusesAnyStringHoldingABreaker", fn := fun _ => fun
  | [d1, d2] => { results := [.lit (.bool true)], args := [d1, d2] }
  | _ => none }
def fnValidScopeRefusesAnyStringHoldingABreakerRow : OpenClaim := { program := "qxb6001507a", sum := "189ba57ad59aba5c046da2aa4448af225756129eda2420208faff8d84fef4db6", func := "example.com/rekv/rekv/zzlaws_root_b1.FnValidScopeRefusesAnyStringHoldingABreaker", spec := "fnValidScopeRefusesAnyStringHoldingABreaker", apart := false }
def FnValidScopeRefusesAnyStringHoldingABreakerSaid : Prop := fnValidScopeRefusesAnyStringHoldingABreakerRow.holds Try.pinned (OpenSpec.ofChange fnValidScopeRefusesAnyStringHoldingABreakerSpec)

/-- ITS FALSE NEIGHBOUR: 'it returns false'. Refute it at one input. -/
def fnValidScopeRefusesAnyStringHoldingABreakerWrong : ChangeSpec := { name := "fnValidScopeRefusesAnyStringHoldingABreaker", fn := fun _ => fun
  | [d1, d2] => { results := [.lit (.bool false)], args := [d1, d2] }
  | _ => none }
def FnValidScopeRefusesAnyStringHoldingABreakerWrongFalsely : Prop := fnValidScopeRefusesAnyStringHoldingABreakerRow.holds Try.pinned (OpenSpec.ofChange fnValidScopeRefusesAnyStringHoldingABreakerWrong)

end Rows
end Go.Proofs.Qxb6001507a
