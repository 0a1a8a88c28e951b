/-
  No cell of these rows narrows 'for every input' (looked for: loops, veiled, ifaces, maps, wideKeys, modest, calm, conditions, laid).
  DERIVED. THE GIVEN ROWS OF THIS SEAT. 2 by the template 'for every input the law returns true; each argument reads behind the call as it read before'; 0 by the template 'total and deterministic' (their statements: Qxb6627973aTotals.lean).
  GIVEN WITH THE SEED: the statements are not yours to turn. If you find one false, say at which input.
  Laid BY PROGRAM, IN A SANDBOX (cutbox-rows.mjs): the forced cells as the released guide's own fill.sh prints them over the translation 8441a53ea3331110… (all of the seat's roots in one cut). By AI agents, Wed Nov 11 2026. No macro, syntax, notation, axiom, sorry.
-/
import Derived.Test.Qxb6627973aChecked
import GoSem.Claim
import GoSem.ClaimJoined
import GoSem.ClaimMapViews
import Derived.JoinedTies
import Derived.KernelRfl
namespace Go.Proofs.Qxb6627973a
/- THE CELL 'sum', in the pinned program and in every row, IS THE sha256 OF THE DUMP (.gsa) THAT Qxb6627973aProg.lean LOADS. Nothing in Lean hashes anything: it is a label: what it is worth is what the hold of that sum in a sandbox is worth. -/
noncomputable def Try.pinned : Pinned := { name := "qxb6627973a", sum := "8441a53ea3331110c42284f777cccec34fe20ab3b2b31b0bcea5484cae5419c0", checked := Try.checked }
namespace Rows
def none {H : Type} : Left H := { results := [], args := [] }

/-- 'zzlaws_internal_git_b1.FnParseSizeRendering': WHATEVER THE INPUT: true; the input reads as it did. -/
def fnParseSizeRenderingSpec : ChangeSpec := { name := "fnParseSizeRendering", fn := fun _ => fun
  | [d] => { results := [.lit (.bool true)], args := [d] }
  | _ => none }
def fnParseSizeRenderingRow : OpenClaim := { program := "qxb6627973a", sum := "8441a53ea3331110c42284f777cccec34fe20ab3b2b31b0bcea5484cae5419c0", func := "example.com/nervous-build/nervous-build/zzlaws_internal_git_b1.FnParseSizeRendering", spec := "fnParseSizeRendering", apart := false }
def FnParseSizeRenderingSaid : Prop := fnParseSizeRenderingRow.holds Try.pinned (OpenSpec.ofChange fnParseSizeRenderingSpec)

/-- ITS FALSE NEIGHBOUR: 'it returns false'. Refute it at one input. -/
def fnParseSizeRenderingWrong : ChangeSpec := { name := "fnParseSizeRendering", fn := fun _ => fun
  | [d] => { results := [.lit (.bool false)], args := [d] }
  | _ => none }
def FnParseSizeRenderingWrongFalsely : Prop := fnParseSizeRenderingRow.holds Try.pinned (OpenSpec.ofChange fnParseSizeRenderingWrong)

/-- 'zzlaws_internal_git_b1.FnParseSizeCut': WHATEVER THE INPUT: true; the input reads as it did. -/
def fnParseSizeCutSpec : ChangeSpec := { name := "fnParseSizeCut", fn := fun _ => fun
  | [d1, d2] => { results := [.lit (.bool true)], args := [d1, d2] }
  | _ => none }
def fnParseSizeCutRow : OpenClaim := { program := "qxb6627973a", sum := "8441a53ea3331110c42284f777cccec34fe20ab3b2b31b0bcea5484cae5419c0", func := "example.com/nervous-build/nervous-build/zzlaws_internal_git_b1.FnParseSizeCut", spec := "fnParseSizeCut", apart := false }
def FnParseSizeCutSaid : Prop := fnParseSizeCutRow.holds Try.pinned (OpenSpec.ofChange fnParseSizeCutSpec)

/-- ITS FALSE NEIGHBOUR: 'it returns false'. Refute it at one input. -/
def fnParseSizeCutWrong : ChangeSpec := { name := "fnParseSizeCut", fn := fun _ => fun
  | [d1, d2] => { results := [.lit (.bool false)], args := [d1, d2] }
  | _ => none }
def FnParseSizeCutWrongFalsely : Prop := fnParseSizeCutRow.holds Try.pinned (OpenSpec.ofChange fnParseSizeCutWrong)

end Rows
end Go.Proofs.Qxb6627973a
