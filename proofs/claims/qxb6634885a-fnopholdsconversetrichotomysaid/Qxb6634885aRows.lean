/-
  No cell of these rows narrows 'for every input' (looked for: loops, veiled, ifaces, maps, wideKeys, modest, calm, conditions, laid).
  DERIVED. THE GIVEN ROWS OF THIS SEAT. 2 by the template 'for every input the law returns true; each argument reads behind the call as it read before'; 0 by the template 'total and deterministic' (their statements: Qxb6634885aTotals.lean).
  GIVEN WITH THE SEED: the statements are not yours to turn. If you find one false, say at which input.
  Laid BY PROGRAM, IN A SANDBOX (cutbox-rows.mjs): the forced cells as the released guide's own fill.sh prints them over the translation b5cb04defef09c68… (all of the seat's roots in one cut). By AI agents, Wed Nov 11 2026. No macro, syntax, notation, axiom, sorry.
-/
import Derived.Test.Qxb6634885aChecked
import GoSem.Claim
import GoSem.ClaimJoined
import GoSem.ClaimMapViews
import Derived.JoinedTies
import Derived.KernelRfl
namespace Go.Proofs.Qxb6634885a
/- THE CELL 'sum', in the pinned program and in every row, IS THE sha256 OF THE DUMP (.gsa) THAT Qxb6634885aProg.lean LOADS. Nothing in Lean hashes anything: it is a label: what it is worth is what the hold of that sum in a sandbox is worth. -/
noncomputable def Try.pinned : Pinned := { name := "qxb6634885a", sum := "b5cb04defef09c68909b1f89fd5b3eaa9c4b10c7c7b0fbe577e4be3fffccf731", checked := Try.checked }
namespace Rows
def none {H : Type} : Left H := { results := [], args := [] }

/-- 'zzlaws_internal_parse_b1.FnOpHoldsNegationAndCount': WHATEVER THE INPUT: true; the input reads as it did. -/
def fnOpHoldsNegationAndCountSpec : ChangeSpec := { name := "fnOpHoldsNegationAndCount", fn := fun _ => fun
  | [d1, d2] => { results := [.lit (.bool true)], args := [d1, d2] }
  | _ => none }
def fnOpHoldsNegationAndCountRow : OpenClaim := { program := "qxb6634885a", sum := "b5cb04defef09c68909b1f89fd5b3eaa9c4b10c7c7b0fbe577e4be3fffccf731", func := "example.com/rashomon/rashomon/zzlaws_internal_parse_b1.FnOpHoldsNegationAndCount", spec := "fnOpHoldsNegationAndCount", apart := false }
def FnOpHoldsNegationAndCountSaid : Prop := fnOpHoldsNegationAndCountRow.holds Try.pinned (OpenSpec.ofChange fnOpHoldsNegationAndCountSpec)

/-- ITS FALSE NEIGHBOUR: 'it returns false'. Refute it at one input. -/
def fnOpHoldsNegationAndCountWrong : ChangeSpec := { name := "fnOpHoldsNegationAndCount", fn := fun _ => fun
  | [d1, d2] => { results := [.lit (.bool false)], args := [d1, d2] }
  | _ => none }
def FnOpHoldsNegationAndCountWrongFalsely : Prop := fnOpHoldsNegationAndCountRow.holds Try.pinned (OpenSpec.ofChange fnOpHoldsNegationAndCountWrong)

/-- 'zzlaws_internal_parse_b1.FnOpHoldsConverseTrichotomy': WHATEVER THE INPUT: true; the input reads as it did. -/
def fnOpHoldsConverseTrichotomySpec : ChangeSpec := { name := "fnOpHoldsConverseTrichotomy", fn := fun _ => fun
  | [d1, d2] => { results := [.lit (.bool true)], args := [d1, d2] }
  | _ => none }
def fnOpHoldsConverseTrichotomyRow : OpenClaim := { program := "qxb6634885a", sum := "b5cb04defef09c68909b1f89fd5b3eaa9c4b10c7c7b0fbe577e4be3fffccf731", func := "example.com/rashomon/rashomon/zzlaws_internal_parse_b1.FnOpHoldsConverseTrichotomy", spec := "fnOpHoldsConverseTrichotomy", apart := false }
def FnOpHoldsConverseTrichotomySaid : Prop := fnOpHoldsConverseTrichotomyRow.holds Try.pinned (OpenSpec.ofChange fnOpHoldsConverseTrichotomySpec)

/-- ITS FALSE NEIGHBOUR: 'it returns false'. Refute it at one input. -/
def fnOpHoldsConverseTrichotomyWrong : ChangeSpec := { name := "fnOpHoldsConverseTrichotomy", fn := fun _ => fun
  | [d1, d2] => { results := [.lit (.bool false)], args := [d1, d2] }
  | _ => none }
def FnOpHoldsConverseTrichotomyWrongFalsely : Prop := fnOpHoldsConverseTrichotomyRow.holds Try.pinned (OpenSpec.ofChange fnOpHoldsConverseTrichotomyWrong)

end Rows
end Go.Proofs.Qxb6634885a
