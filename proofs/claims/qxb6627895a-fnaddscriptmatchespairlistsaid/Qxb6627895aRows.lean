/-
  No cell of these rows narrows 'for every input' (looked for: loops, veiled, ifaces, maps, wideKeys, modest, calm, conditions, laid).
  DERIVED. THE GIVEN ROWS OF THIS SEAT. 2 by the template 'for every input the law returns true; each argument reads behind the call as it read before'; 0 by the template 'total and deterministic' (their statements: Qxb6627895aTotals.lean).
  GIVEN WITH THE SEED: the statements are not yours to turn. If you find one false, say at which input.
  Laid BY PROGRAM, IN A SANDBOX (cutbox-rows.mjs): the forced cells as the released guide's own fill.sh prints them over the translation 84a0bdba97a4391d… (all of the seat's roots in one cut). By AI agents, Wed Nov 11 2026. No macro, syntax, notation, axiom, sorry.
-/
import Derived.Test.Qxb6627895aChecked
import GoSem.Claim
import GoSem.ClaimJoined
import GoSem.ClaimMapViews
import Derived.JoinedTies
import Derived.KernelRfl
namespace Go.Proofs.Qxb6627895a
/- THE CELL 'sum', in the pinned program and in every row, IS THE sha256 OF THE DUMP (.gsa) THAT Qxb6627895aProg.lean LOADS. Nothing in Lean hashes anything: it is a label: what it is worth is what the hold of that sum in a sandbox is worth. -/
noncomputable def Try.pinned : Pinned := { name := "qxb6627895a", sum := "84a0bdba97a4391db0e28648cb695c758b7b42fbb133eeafdaf84956b01695b7", checked := Try.checked }
namespace Rows
def none {H : Type} : Left H := { results := [], args := [] }

/-- 'zzlaws_internal_containment_b1.FnAddScriptMatchesPairList': WHATEVER THE INPUT: true; the input reads as it did. -/
def fnAddScriptMatchesPairListSpec : ChangeSpec := { name := "fnAddScriptMatchesPairList", fn := fun _ => fun
  | [d1, d2, d3, d4] => { results := [.lit (.bool true)], args := [d1, d2, d3, d4] }
  | _ => none }
def fnAddScriptMatchesPairListRow : OpenClaim := { program := "qxb6627895a", sum := "84a0bdba97a4391db0e28648cb695c758b7b42fbb133eeafdaf84956b01695b7", func := "example.com/rolegate/rolegate/zzlaws_internal_containment_b1.FnAddScriptMatchesPairList", spec := "fnAddScriptMatchesPairList", apart := false }
def FnAddScriptMatchesPairListSaid : Prop := fnAddScriptMatchesPairListRow.holds Try.pinned (OpenSpec.ofChange fnAddScriptMatchesPairListSpec)

/-- ITS FALSE NEIGHBOUR: 'it returns false'. Refute it at one input. -/
def fnAddScriptMatchesPairListWrong : ChangeSpec := { name := "fnAddScriptMatchesPairList", fn := fun _ => fun
  | [d1, d2, d3, d4] => { results := [.lit (.bool false)], args := [d1, d2, d3, d4] }
  | _ => none }
def FnAddScriptMatchesPairListWrongFalsely : Prop := fnAddScriptMatchesPairListRow.holds Try.pinned (OpenSpec.ofChange fnAddScriptMatchesPairListWrong)

/-- 'zzlaws_internal_containment_b1.FnAddOneLinkStep': WHATEVER THE INPUT: true; the input reads as it did. -/
def fnAddOneLinkStepSpec : ChangeSpec := { name := "fnAddOneLinkStep", fn := fun _ => fun
  | [d1, d2, d3, d4, d5, d6] => { results := [.lit (.bool true)], args := [d1, d2, d3, d4, d5, d6] }
  | _ => none }
def fnAddOneLinkStepRow : OpenClaim := { program := "qxb6627895a", sum := "84a0bdba97a4391db0e28648cb695c758b7b42fbb133eeafdaf84956b01695b7", func := "example.com/rolegate/rolegate/zzlaws_internal_containment_b1.FnAddOneLinkStep", spec := "fnAddOneLinkStep", apart := false }
def FnAddOneLinkStepSaid : Prop := fnAddOneLinkStepRow.holds Try.pinned (OpenSpec.ofChange fnAddOneLinkStepSpec)

/-- ITS FALSE NEIGHBOUR: 'it returns false'. Refute it at one input. -/
def fnAddOneLinkStepWrong : ChangeSpec := { name := "fnAddOneLinkStep", fn := fun _ => fun
  | [d1, d2, d3, d4, d5, d6] => { results := [.lit (.bool false)], args := [d1, d2, d3, d4, d5, d6] }
  | _ => none }
def FnAddOneLinkStepWrongFalsely : Prop := fnAddOneLinkStepRow.holds Try.pinned (OpenSpec.ofChange fnAddOneLinkStepWrong)

end Rows
end Go.Proofs.Qxb6627895a
