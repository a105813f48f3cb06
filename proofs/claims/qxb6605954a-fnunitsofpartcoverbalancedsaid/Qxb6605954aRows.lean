/-
  No cell of these rows narrows 'for every input' (looked for: loops, veiled, ifaces, maps, wideKeys, modest, calm, conditions, laid).
  DERIVED. THE GIVEN ROWS OF THIS SEAT. 5 by the template 'for every input the law returns true; each argument reads behind the call as it read before'; 0 by the template 'total and deterministic' (their statements: Qxb6605954aTotals.lean).
  GIVEN WITH THE SEED: the statements are not yours to turn. If you find one false, say at which input.
  Laid BY PROGRAM, IN A SANDBOX (cutbox-rows.mjs): the forced cells as the released guide's own fill.sh prints them over the translation 09c6e3998a9d54f4… (all of the seat's roots in one cut). By AI agents, Wed Nov 11 2026. No macro, syntax, notation, axiom, sorry.
-/
import Derived.Test.Qxb6605954aChecked
import GoSem.Claim
import GoSem.ClaimJoined
import GoSem.ClaimMapViews
import Derived.JoinedTies
import Derived.KernelRfl
namespace Go.Proofs.Qxb6605954a
/- THE CELL 'sum', in the pinned program and in every row, IS THE sha256 OF THE DUMP (.gsa) THAT Qxb6605954aProg.lean LOADS. Nothing in Lean hashes anything: it is a label: what it is worth is what the hold of that sum in a sandbox is worth. -/
noncomputable def Try.pinned : Pinned := { name := "qxb6605954a", sum := "09c6e3998a9d54f4e397e69b70baab5559a47442193ac6c850e0af0c0b07a480", checked := Try.checked }
namespace Rows
def none {H : Type} : Left H := { results := [], args := [] }

/-- 'zzlaws_sim_b1.FnIdSetRemoveExact': WHATEVER THE INPUT: true; the input reads as it did. -/
def fnIdSetRemoveExactSpec : ChangeSpec := { name := "fnIdSetRemoveExact", fn := fun _ => fun
  | [d1, d2] => { results := [.lit (.bool true)], args := [d1, d2] }
  | _ => none }
def fnIdSetRemoveExactRow : OpenClaim := { program := "qxb6605954a", sum := "09c6e3998a9d54f4e397e69b70baab5559a47442193ac6c850e0af0c0b07a480", func := "example.com/ringwright/ringwright/zzlaws_sim_b1.FnIdSetRemoveExact", spec := "fnIdSetRemoveExact", plainKeys := false, apart := false }
def FnIdSetRemoveExactSaid : Prop := fnIdSetRemoveExactRow.holds Try.pinned (OpenSpec.ofChange fnIdSetRemoveExactSpec)

/-- ITS FALSE NEIGHBOUR: 'it returns false'. Refute it at one input. -/
def fnIdSetRemoveExactWrong : ChangeSpec := { name := "fnIdSetRemoveExact", fn := fun _ => fun
  | [d1, d2] => { results := [.lit (.bool false)], args := [d1, d2] }
  | _ => none }
def FnIdSetRemoveExactWrongFalsely : Prop := fnIdSetRemoveExactRow.holds Try.pinned (OpenSpec.ofChange fnIdSetRemoveExactWrong)

/-- 'zzlaws_sim_b1.FnIdSetRemoveScript': WHATEVER THE INPUT: true; the input reads as it did. -/
def fnIdSetRemoveScriptSpec : ChangeSpec := { name := "fnIdSetRemoveScript", fn := fun _ => fun
  | [d1, d2] => { results := [.lit (.bool true)], args := [d1, d2] }
  | _ => none }
def fnIdSetRemoveScriptRow : OpenClaim := { program := "qxb6605954a", sum := "09c6e3998a9d54f4e397e69b70baab5559a47442193ac6c850e0af0c0b07a480", func := "example.com/ringwright/ringwright/zzlaws_sim_b1.FnIdSetRemoveScript", spec := "fnIdSetRemoveScript", plainKeys := false, apart := false }
def FnIdSetRemoveScriptSaid : Prop := fnIdSetRemoveScriptRow.holds Try.pinned (OpenSpec.ofChange fnIdSetRemoveScriptSpec)

/-- ITS FALSE NEIGHBOUR: 'it returns false'. Refute it at one input. -/
def fnIdSetRemoveScriptWrong : ChangeSpec := { name := "fnIdSetRemoveScript", fn := fun _ => fun
  | [d1, d2] => { results := [.lit (.bool false)], args := [d1, d2] }
  | _ => none }
def FnIdSetRemoveScriptWrongFalsely : Prop := fnIdSetRemoveScriptRow.holds Try.pinned (OpenSpec.ofChange fnIdSetRemoveScriptWrong)

/-- 'zzlaws_sim_b1.FnUnitsOfPartExact': WHATEVER THE INPUT: true; the input reads as it did. -/
def fnUnitsOfPartExactSpec : ChangeSpec := { name := "fnUnitsOfPartExact", fn := fun _ => fun
  | [d1, d2, d3] => { results := [.lit (.bool true)], args := [d1, d2, d3] }
  | _ => none }
def fnUnitsOfPartExactRow : OpenClaim := { program := "qxb6605954a", sum := "09c6e3998a9d54f4e397e69b70baab5559a47442193ac6c850e0af0c0b07a480", func := "example.com/ringwright/ringwright/zzlaws_sim_b1.FnUnitsOfPartExact", spec := "fnUnitsOfPartExact", unfollowed := true, recurses := true, named := ["math/bits.divideError", "math/bits.overflowError"], plainKeys := false, apart := false }
def FnUnitsOfPartExactSaid : Prop := fnUnitsOfPartExactRow.holds Try.pinned (OpenSpec.ofChange fnUnitsOfPartExactSpec)

/-- ITS FALSE NEIGHBOUR: 'it returns false'. Refute it at one input. -/
def fnUnitsOfPartExactWrong : ChangeSpec := { name := "fnUnitsOfPartExact", fn := fun _ => fun
  | [d1, d2, d3] => { results := [.lit (.bool false)], args := [d1, d2, d3] }
  | _ => none }
def FnUnitsOfPartExactWrongFalsely : Prop := fnUnitsOfPartExactRow.holds Try.pinned (OpenSpec.ofChange fnUnitsOfPartExactWrong)

/-- 'zzlaws_sim_b1.FnUnitsOfPartCoverBalanced': WHATEVER THE INPUT: true; the input reads as it did. -/
def fnUnitsOfPartCoverBalancedSpec : ChangeSpec := { name := "fnUnitsOfPartCoverBalanced", fn := fun _ => fun
  | [d1, d2] => { results := [.lit (.bool true)], args := [d1, d2] }
  | _ => none }
def fnUnitsOfPartCoverBalancedRow : OpenClaim := { program := "qxb6605954a", sum := "09c6e3998a9d54f4e397e69b70baab5559a47442193ac6c850e0af0c0b07a480", func := "example.com/ringwright/ringwright/zzlaws_sim_b1.FnUnitsOfPartCoverBalanced", spec := "fnUnitsOfPartCoverBalanced", unfollowed := true, recurses := true, named := ["math/bits.divideError", "math/bits.overflowError"], plainKeys := false, apart := false }
def FnUnitsOfPartCoverBalancedSaid : Prop := fnUnitsOfPartCoverBalancedRow.holds Try.pinned (OpenSpec.ofChange fnUnitsOfPartCoverBalancedSpec)

/-- ITS FALSE NEIGHBOUR: 'it returns false'. Refute it at one input. -/
def fnUnitsOfPartCoverBalancedWrong : ChangeSpec := { name := "fnUnitsOfPartCoverBalanced", fn := fun _ => fun
  | [d1, d2] => { results := [.lit (.bool false)], args := [d1, d2] }
  | _ => none }
def FnUnitsOfPartCoverBalancedWrongFalsely : Prop := fnUnitsOfPartCoverBalancedRow.holds Try.pinned (OpenSpec.ofChange fnUnitsOfPartCoverBalancedWrong)

/-- 'zzlaws_sim_b1.FnFirstOfSymmetriesExact': WHATEVER THE INPUT: true; the input reads as it did. -/
def fnFirstOfSymmetriesExactSpec : ChangeSpec := { name := "fnFirstOfSymmetriesExact", fn := fun _ => fun
  | [d1, d2, d3, d4, d5, d6] => { results := [.lit (.bool true)], args := [d1, d2, d3, d4, d5, d6] }
  | _ => none }
def fnFirstOfSymmetriesExactRow : OpenClaim := { program := "qxb6605954a", sum := "09c6e3998a9d54f4e397e69b70baab5559a47442193ac6c850e0af0c0b07a480", func := "example.com/ringwright/ringwright/zzlaws_sim_b1.FnFirstOfSymmetriesExact", spec := "fnFirstOfSymmetriesExact", plainKeys := false, apart := false }
def FnFirstOfSymmetriesExactSaid : Prop := fnFirstOfSymmetriesExactRow.holds Try.pinned (OpenSpec.ofChange fnFirstOfSymmetriesExactSpec)

/-- ITS FALSE NEIGHBOUR: 'it returns false'. Refute it at one input. -/
def fnFirstOfSymmetriesExactWrong : ChangeSpec := { name := "fnFirstOfSymmetriesExact", fn := fun _ => fun
  | [d1, d2, d3, d4, d5, d6] => { results := [.lit (.bool false)], args := [d1, d2, d3, d4, d5, d6] }
  | _ => none }
def FnFirstOfSymmetriesExactWrongFalsely : Prop := fnFirstOfSymmetriesExactRow.holds Try.pinned (OpenSpec.ofChange fnFirstOfSymmetriesExactWrong)

end Rows
end Go.Proofs.Qxb6605954a
