/-
  NARROWER THAN 'FOR EVERY INPUT', by the rows' own cells (each row's printed sentence says how): FnFailAnswersErrOrRefusalAndEmpties: ifaces, laid · FnFailRefusalOutlivesTheEmptying: ifaces, laid.
  DERIVED. THE GIVEN ROWS OF THIS SEAT. 2 by the template 'for every input the law returns true; each argument reads behind the call as it read before'; 0 by the template 'total and deterministic' (their statements: Qxb6605891aFmtTotals.lean).
  GIVEN WITH THE SEED: the statements are not yours to turn. If you find one false, say at which input.
  Laid BY PROGRAM, IN A SANDBOX (cutbox-rows.mjs): the forced cells as the released guide's own fill.sh prints them over the translation c26d72d02769e083… (all of the seat's roots in one cut). By AI agents, Wed Nov 11 2026. No macro, syntax, notation, axiom, sorry.
-/
import Derived.Test.Qxb6605891aFmtChecked
import GoSem.Claim
import GoSem.ClaimJoined
import GoSem.ClaimMapViews
import Derived.JoinedTies
import Derived.KernelRfl
namespace Go.Proofs.Qxb6605891aFmt
/- THE CELL 'sum', in the pinned program and in every row, IS THE sha256 OF THE DUMP (.gsa) THAT Qxb6605891aFmtProg.lean LOADS. Nothing in Lean hashes anything: it is a label: what it is worth is what the hold of that sum in a sandbox is worth. -/
noncomputable def Tryf.pinned : Pinned := { name := "qxb6605891afmt", sum := "c26d72d02769e083c60636748b898be98aa65e74e0bfb28a39d8a1bbfc27314d", checked := Tryf.checked }
namespace Rows
def none {H : Type} : Left H := { results := [], args := [] }

/- WHAT THE LISTED PACKAGE-LEVEL VARIABLES READ AS WHEN THE CALL BEGINS. Each datum BY PROGRAM (the guide's laid-datum.mjs) off the statement by which the dump's own 'gosem.cut.vars' lays the variable. In a bare row this is a premise. The card (Qxb6605891aFmtCards.lean) ties it to the program's text. -/
def laid_example_com_usnea_usnea_ErrScopeClosed {H : Type} : DataW H := .iface "*errors.errorString" (.ptr (.agg [.lit (.string [117, 115, 110, 101, 97, 58, 32, 115, 99, 111, 112, 101, 32, 105, 115, 32, 99, 108, 111, 115, 101, 100])]))

/-- 'zzlaws_root_b1.FnFailAnswersErrOrRefusalAndEmpties': WHATEVER THE INPUT: true; the input reads as it did. -/
def fnFailAnswersErrOrRefusalAndEmptiesSpec : ChangeSpec := { name := "fnFailAnswersErrOrRefusalAndEmpties", vars := ["example.com/usnea/usnea.ErrScopeClosed"], fn := fun _ => fun
  | [d1, d2, d3, d4, g1] => { results := [.lit (.bool true)], args := [d1, d2, d3, d4], vars := [g1] }
  | _ => none }
def fnFailAnswersErrOrRefusalAndEmptiesRow : OpenClaim := { program := "qxb6605891afmt", sum := "c26d72d02769e083c60636748b898be98aa65e74e0bfb28a39d8a1bbfc27314d", func := "example.com/usnea/usnea/zzlaws_root_b1.FnFailAnswersErrOrRefusalAndEmpties", spec := "fnFailAnswersErrOrRefusalAndEmpties", stops := ["fmt.Sprintf, its operands' methods called"], inPlace := ["fmt.Sprintf"], unfollowed := true, recurses := true, named := ["example.com/usnea/usnea.ErrScopeClosed"], ifaces := true, apart := false, laid := [("example.com/usnea/usnea.ErrScopeClosed", laid_example_com_usnea_usnea_ErrScopeClosed)] }
/-- NO THEOREM (fmt's text is open here; it may be false): for the released tool's asking of the row's closed facts alone. THE STATEMENT IS 'FnFailAnswersErrOrRefusalAndEmptiesToldSaid' (Qxb6605891aFmtCards.lean). -/
def FnFailAnswersErrOrRefusalAndEmptiesFormAsk : Prop := fnFailAnswersErrOrRefusalAndEmptiesRow.holds Tryf.pinned (OpenSpec.ofChange fnFailAnswersErrOrRefusalAndEmptiesSpec)

/-- ITS FALSE NEIGHBOUR: 'it returns false'. Refute it at one input. -/
def fnFailAnswersErrOrRefusalAndEmptiesWrong : ChangeSpec := { name := "fnFailAnswersErrOrRefusalAndEmpties", vars := ["example.com/usnea/usnea.ErrScopeClosed"], fn := fun _ => fun
  | [d1, d2, d3, d4, g1] => { results := [.lit (.bool false)], args := [d1, d2, d3, d4], vars := [g1] }
  | _ => none }
def FnFailAnswersErrOrRefusalAndEmptiesWrongFormAsk : Prop := fnFailAnswersErrOrRefusalAndEmptiesRow.holds Tryf.pinned (OpenSpec.ofChange fnFailAnswersErrOrRefusalAndEmptiesWrong)

/-- 'zzlaws_root_b1.FnFailRefusalOutlivesTheEmptying': WHATEVER THE INPUT: true; the input reads as it did. -/
def fnFailRefusalOutlivesTheEmptyingSpec : ChangeSpec := { name := "fnFailRefusalOutlivesTheEmptying", vars := ["example.com/usnea/usnea.ErrScopeClosed"], fn := fun _ => fun
  | [d1, d2, d3, d4, g1] => { results := [.lit (.bool true)], args := [d1, d2, d3, d4], vars := [g1] }
  | _ => none }
def fnFailRefusalOutlivesTheEmptyingRow : OpenClaim := { program := "qxb6605891afmt", sum := "c26d72d02769e083c60636748b898be98aa65e74e0bfb28a39d8a1bbfc27314d", func := "example.com/usnea/usnea/zzlaws_root_b1.FnFailRefusalOutlivesTheEmptying", spec := "fnFailRefusalOutlivesTheEmptying", stops := ["fmt.Sprintf, its operands' methods called"], inPlace := ["fmt.Sprintf"], unfollowed := true, recurses := true, named := ["example.com/usnea/usnea.ErrScopeClosed"], ifaces := true, apart := false, laid := [("example.com/usnea/usnea.ErrScopeClosed", laid_example_com_usnea_usnea_ErrScopeClosed)] }
/-- NO THEOREM (fmt's text is open here; it may be false): for the released tool's asking of the row's closed facts alone. THE STATEMENT IS 'FnFailRefusalOutlivesTheEmptyingToldSaid' (Qxb6605891aFmtCards.lean). -/
def FnFailRefusalOutlivesTheEmptyingFormAsk : Prop := fnFailRefusalOutlivesTheEmptyingRow.holds Tryf.pinned (OpenSpec.ofChange fnFailRefusalOutlivesTheEmptyingSpec)

/-- ITS FALSE NEIGHBOUR: 'it returns false'. Refute it at one input. -/
def fnFailRefusalOutlivesTheEmptyingWrong : ChangeSpec := { name := "fnFailRefusalOutlivesTheEmptying", vars := ["example.com/usnea/usnea.ErrScopeClosed"], fn := fun _ => fun
  | [d1, d2, d3, d4, g1] => { results := [.lit (.bool false)], args := [d1, d2, d3, d4], vars := [g1] }
  | _ => none }
def FnFailRefusalOutlivesTheEmptyingWrongFormAsk : Prop := fnFailRefusalOutlivesTheEmptyingRow.holds Tryf.pinned (OpenSpec.ofChange fnFailRefusalOutlivesTheEmptyingWrong)

end Rows
end Go.Proofs.Qxb6605891aFmt
