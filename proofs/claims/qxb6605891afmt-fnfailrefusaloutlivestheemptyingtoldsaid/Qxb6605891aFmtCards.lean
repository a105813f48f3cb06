/-
  DERIVED. GIVEN WITH THE SEED: THE CARDS: each row of Qxb6605891aFmtRows.lean that lists a variable, with what it lists TIED to the program's text (the seventh form; the later family's looks); each row that meets fmt, with fmt's text TOLD by the authors' own Lean function (tested against real Go, not proved from fmt's source: count such statements apart). THE CARD IS WHAT COUNTS. Prove the row's statement (the work); the ties are given (Qxb6605891aFmtTie.lean); close each card by the builder's one call (the guide's Derived/Test/ToyasCard.lean, 'card_holds'). Laid BY PROGRAM, IN A SANDBOX (cutbox-door.mjs). By AI agents, Wed Nov 11 2026. No macro, syntax, notation, axiom, sorry.
-/
import Derived.Test.Qxb6605891aFmtRows
import GoSem.ClaimSeven
namespace Go.Proofs.Qxb6605891aFmt
namespace Rows

/-- THE TOLD AND TIED CARD OF 'zzlaws_root_b1.FnFailAnswersErrOrRefusalAndEmpties'. -/
def fnFailAnswersErrOrRefusalAndEmptiesCard : Claim7 := { stood := { row := fnFailAnswersErrOrRefusalAndEmptiesRow, standIns := [], harness := (true, "d7fb27bdc77c2c087c1dea2b2f68b4e84327e531d1026a3de84afe6814410b89"), looks := true }, told := true, laidByText := true, laidKinds := [.called], laidTests := true, laidLooks := .later, goes := false }
def FnFailAnswersErrOrRefusalAndEmptiesToldSaid : Prop := Claim7.holds Tryf.pinned (.plain (OpenSpec.ofChange fnFailAnswersErrOrRefusalAndEmptiesSpec)) fnFailAnswersErrOrRefusalAndEmptiesCard
/-- ITS FALSE NEIGHBOUR. Refute it at one input. -/
def FnFailAnswersErrOrRefusalAndEmptiesToldWrongFalsely : Prop := Claim7.holds Tryf.pinned (.plain (OpenSpec.ofChange fnFailAnswersErrOrRefusalAndEmptiesWrong)) fnFailAnswersErrOrRefusalAndEmptiesCard

/-- THE TOLD AND TIED CARD OF 'zzlaws_root_b1.FnFailRefusalOutlivesTheEmptying'. -/
def fnFailRefusalOutlivesTheEmptyingCard : Claim7 := { stood := { row := fnFailRefusalOutlivesTheEmptyingRow, standIns := [], harness := (true, "d7fb27bdc77c2c087c1dea2b2f68b4e84327e531d1026a3de84afe6814410b89"), looks := true }, told := true, laidByText := true, laidKinds := [.called], laidTests := true, laidLooks := .later, goes := false }
def FnFailRefusalOutlivesTheEmptyingToldSaid : Prop := Claim7.holds Tryf.pinned (.plain (OpenSpec.ofChange fnFailRefusalOutlivesTheEmptyingSpec)) fnFailRefusalOutlivesTheEmptyingCard
/-- ITS FALSE NEIGHBOUR. Refute it at one input. -/
def FnFailRefusalOutlivesTheEmptyingToldWrongFalsely : Prop := Claim7.holds Tryf.pinned (.plain (OpenSpec.ofChange fnFailRefusalOutlivesTheEmptyingWrong)) fnFailRefusalOutlivesTheEmptyingCard
end Rows
end Go.Proofs.Qxb6605891aFmt
