/-
  No cell of these rows narrows 'for every input' (looked for: loops, veiled, ifaces, maps, wideKeys, modest, calm, conditions, laid).
  DERIVED. THE GIVEN ROWS OF THIS SEAT. 2 by the template 'for every input the law returns true; each argument reads behind the call as it read before'; 0 by the template 'total and deterministic' (their statements: Qxb6627947aTotals.lean).
  GIVEN WITH THE SEED: the statements are not yours to turn. If you find one false, say at which input.
  Laid BY PROGRAM, IN A SANDBOX (cutbox-rows.mjs): the forced cells as the released guide's own fill.sh prints them over the translation f6dafe6c29713bca… (all of the seat's roots in one cut). By AI agents, Wed Nov 11 2026. No macro, syntax, notation, axiom, sorry.
-/
import Derived.Test.Qxb6627947aChecked
import GoSem.Claim
import GoSem.ClaimJoined
import GoSem.ClaimMapViews
import Derived.JoinedTies
import Derived.KernelRfl
namespace Go.Proofs.Qxb6627947a
/- THE CELL 'sum', in the pinned program and in every row, IS THE sha256 OF THE DUMP (.gsa) THAT Qxb6627947aProg.lean LOADS. Nothing in Lean hashes anything: it is a label: what it is worth is what the hold of that sum in a sandbox is worth. -/
noncomputable def Try.pinned : Pinned := { name := "qxb6627947a", sum := "f6dafe6c29713bca847fd317b9f9114c352a685468c241ca6b3c18e5d58731ed", checked := Try.checked }
namespace Rows
def none {H : Type} : Left H := { results := [], args := [] }

/-- 'zzlaws_root_b1.FnFillPlacesEachArgument': WHATEVER THE INPUT: true; the input reads as it did. -/
def fnFillPlacesEachArgumentSpec : ChangeSpec := { name := "fnFillPlacesEachArgument", fn := fun _ => fun
  | [d1, d2, d3, d4] => { results := [.lit (.bool true)], args := [d1, d2, d3, d4] }
  | _ => none }
def fnFillPlacesEachArgumentRow : OpenClaim := { program := "qxb6627947a", sum := "f6dafe6c29713bca847fd317b9f9114c352a685468c241ca6b3c18e5d58731ed", func := "example.com/sigilwire/sigilwire/zzlaws_root_b1.FnFillPlacesEachArgument", spec := "fnFillPlacesEachArgument", apart := false }
def FnFillPlacesEachArgumentSaid : Prop := fnFillPlacesEachArgumentRow.holds Try.pinned (OpenSpec.ofChange fnFillPlacesEachArgumentSpec)

/-- ITS FALSE NEIGHBOUR: 'it returns false'. Refute it at one input. -/
def fnFillPlacesEachArgumentWrong : ChangeSpec := { name := "fnFillPlacesEachArgument", fn := fun _ => fun
  | [d1, d2, d3, d4] => { results := [.lit (.bool false)], args := [d1, d2, d3, d4] }
  | _ => none }
def FnFillPlacesEachArgumentWrongFalsely : Prop := fnFillPlacesEachArgumentRow.holds Try.pinned (OpenSpec.ofChange fnFillPlacesEachArgumentWrong)

/-- 'zzlaws_root_b1.FnFillKeepsEarlierArguments': WHATEVER THE INPUT: true; the input reads as it did. -/
def fnFillKeepsEarlierArgumentsSpec : ChangeSpec := { name := "fnFillKeepsEarlierArguments", fn := fun _ => fun
  | [d1, d2, d3, d4, d5] => { results := [.lit (.bool true)], args := [d1, d2, d3, d4, d5] }
  | _ => none }
def fnFillKeepsEarlierArgumentsRow : OpenClaim := { program := "qxb6627947a", sum := "f6dafe6c29713bca847fd317b9f9114c352a685468c241ca6b3c18e5d58731ed", func := "example.com/sigilwire/sigilwire/zzlaws_root_b1.FnFillKeepsEarlierArguments", spec := "fnFillKeepsEarlierArguments", apart := false }
def FnFillKeepsEarlierArgumentsSaid : Prop := fnFillKeepsEarlierArgumentsRow.holds Try.pinned (OpenSpec.ofChange fnFillKeepsEarlierArgumentsSpec)

/-- ITS FALSE NEIGHBOUR: 'it returns false'. Refute it at one input. -/
def fnFillKeepsEarlierArgumentsWrong : ChangeSpec := { name := "fnFillKeepsEarlierArguments", fn := fun _ => fun
  | [d1, d2, d3, d4, d5] => { results := [.lit (.bool false)], args := [d1, d2, d3, d4, d5] }
  | _ => none }
def FnFillKeepsEarlierArgumentsWrongFalsely : Prop := fnFillKeepsEarlierArgumentsRow.holds Try.pinned (OpenSpec.ofChange fnFillKeepsEarlierArgumentsWrong)

end Rows
end Go.Proofs.Qxb6627947a
