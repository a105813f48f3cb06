/-
  No cell of these rows narrows 'for every input' (looked for: loops, veiled, ifaces, maps, wideKeys, modest, calm, conditions, laid).
  DERIVED. THE GIVEN ROWS OF THIS SEAT. 2 by the template 'for every input the law returns true; each argument reads behind the call as it read before'; 0 by the template 'total and deterministic' (their statements: Qxb6605891aTotals.lean).
  GIVEN WITH THE SEED: the statements are not yours to turn. If you find one false, say at which input.
  Laid BY PROGRAM, IN A SANDBOX (cutbox-rows.mjs): the forced cells as the released guide's own fill.sh prints them over the translation 390b273a88bff815… (all of the seat's roots in one cut). By AI agents, Wed Nov 11 2026. No macro, syntax, notation, axiom, sorry.
-/
import Derived.Test.Qxb6605891aChecked
import GoSem.Claim
import GoSem.ClaimJoined
import GoSem.ClaimMapViews
import Derived.JoinedTies
import Derived.KernelRfl
namespace Go.Proofs.Qxb6605891a
/- THE CELL 'sum', in the pinned program and in every row, IS THE sha256 OF THE DUMP (.gsa) THAT Qxb6605891aProg.lean LOADS. Nothing in Lean hashes anything: it is a label: what it is worth is what the hold of that sum in a sandbox is worth. -/
noncomputable def Try.pinned : Pinned := { name := "qxb6605891a", sum := "390b273a88bff815cf4bd0c70e16f54f5fdbc4beec22418e7d15fd3227084a9f", checked := Try.checked }
namespace Rows
def none {H : Type} : Left H := { results := [], args := [] }

/-- 'zzlaws_root_b1.FnAddToAppendsUnderOutlineAlone': WHATEVER THE INPUT: true; the input reads as it did. -/
def fnAddToAppendsUnderOutlineAloneSpec : ChangeSpec := { name := "fnAddToAppendsUnderOutlineAlone", fn := fun _ => fun
  | [d1, d2, d3] => { results := [.lit (.bool true)], args := [d1, d2, d3] }
  | _ => none }
def fnAddToAppendsUnderOutlineAloneRow : OpenClaim := { program := "qxb6605891a", sum := "390b273a88bff815cf4bd0c70e16f54f5fdbc4beec22418e7d15fd3227084a9f", func := "example.com/usnea/usnea/zzlaws_root_b1.FnAddToAppendsUnderOutlineAlone", spec := "fnAddToAppendsUnderOutlineAlone", apart := false }
def FnAddToAppendsUnderOutlineAloneSaid : Prop := fnAddToAppendsUnderOutlineAloneRow.holds Try.pinned (OpenSpec.ofChange fnAddToAppendsUnderOutlineAloneSpec)

/-- ITS FALSE NEIGHBOUR: 'it returns false'. Refute it at one input. -/
def fnAddToAppendsUnderOutlineAloneWrong : ChangeSpec := { name := "fnAddToAppendsUnderOutlineAlone", fn := fun _ => fun
  | [d1, d2, d3] => { results := [.lit (.bool false)], args := [d1, d2, d3] }
  | _ => none }
def FnAddToAppendsUnderOutlineAloneWrongFalsely : Prop := fnAddToAppendsUnderOutlineAloneRow.holds Try.pinned (OpenSpec.ofChange fnAddToAppendsUnderOutlineAloneWrong)

/-- 'zzlaws_root_b1.FnAddToScriptKeepsEachOutlinesOrder': WHATEVER THE INPUT: true; the input reads as it did. -/
def fnAddToScriptKeepsEachOutlinesOrderSpec : ChangeSpec := { name := "fnAddToScriptKeepsEachOutlinesOrder", fn := fun _ => fun
  | [d] => { results := [.lit (.bool true)], args := [d] }
  | _ => none }
def fnAddToScriptKeepsEachOutlinesOrderRow : OpenClaim := { program := "qxb6605891a", sum := "390b273a88bff815cf4bd0c70e16f54f5fdbc4beec22418e7d15fd3227084a9f", func := "example.com/usnea/usnea/zzlaws_root_b1.FnAddToScriptKeepsEachOutlinesOrder", spec := "fnAddToScriptKeepsEachOutlinesOrder", apart := false }
def FnAddToScriptKeepsEachOutlinesOrderSaid : Prop := fnAddToScriptKeepsEachOutlinesOrderRow.holds Try.pinned (OpenSpec.ofChange fnAddToScriptKeepsEachOutlinesOrderSpec)

/-- ITS FALSE NEIGHBOUR: 'it returns false'. Refute it at one input. -/
def fnAddToScriptKeepsEachOutlinesOrderWrong : ChangeSpec := { name := "fnAddToScriptKeepsEachOutlinesOrder", fn := fun _ => fun
  | [d] => { results := [.lit (.bool false)], args := [d] }
  | _ => none }
def FnAddToScriptKeepsEachOutlinesOrderWrongFalsely : Prop := fnAddToScriptKeepsEachOutlinesOrderRow.holds Try.pinned (OpenSpec.ofChange fnAddToScriptKeepsEachOutlinesOrderWrong)

end Rows
end Go.Proofs.Qxb6605891a
