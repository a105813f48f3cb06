/-
  DERIVED. GIVEN WITH THE SEED: THE CARDS: each row of Qxb6605891aDoorRows.lean that lists a variable, with what it lists TIED to the program's text (the seventh form; the later family's looks); each row that meets fmt, with fmt's text TOLD by the authors' own Lean function (tested against real Go, not proved from fmt's source: count such statements apart). THE CARD IS WHAT COUNTS. Prove the row's statement (the work); the ties are given (Qxb6605891aDoorTie.lean); close each card by the builder's one call (the guide's Derived/Test/ToyasCard.lean, 'card_holds'). Laid BY PROGRAM, IN A SANDBOX (cutbox-door.mjs). By AI agents, Wed Nov 11 2026. No macro, syntax, notation, axiom, sorry.
-/
import Derived.Test.Qxb6605891aDoorRows
import GoSem.ClaimSeven
namespace Go.Proofs.Qxb6605891aDoor
namespace Rows

/-- THE TIED CARD OF 'zzlaws_root_b1.FnWhileOpenRunsExactlyWhenOpen'. -/
def fnWhileOpenRunsExactlyWhenOpenCard : Claim7 := { stood := { row := fnWhileOpenRunsExactlyWhenOpenRow, standIns := [], harness := (true, "3ee8206486e96ec649d1274147466258b29edd995b38a61e07e2fd36ab848201"), looks := true }, kinds := [], alts := [], laidByText := true, laidKinds := [.called], laidTests := true, laidLooks := .later }
def FnWhileOpenRunsExactlyWhenOpenCardSaid : Prop := Claim7.holds Tryd.pinned (.plain (OpenSpec.ofChange fnWhileOpenRunsExactlyWhenOpenSpec)) fnWhileOpenRunsExactlyWhenOpenCard

/-- THE TIED CARD OF 'zzlaws_root_b1.FnWhileOpenNewScopeAcceptsEveryCall'. -/
def fnWhileOpenNewScopeAcceptsEveryCallCard : Claim7 := { stood := { row := fnWhileOpenNewScopeAcceptsEveryCallRow, standIns := [], harness := (true, "3ee8206486e96ec649d1274147466258b29edd995b38a61e07e2fd36ab848201"), looks := true }, kinds := [], alts := [], laidByText := true, laidKinds := [.called], laidTests := true, laidLooks := .later }
def FnWhileOpenNewScopeAcceptsEveryCallCardSaid : Prop := Claim7.holds Tryd.pinned (.plain (OpenSpec.ofChange fnWhileOpenNewScopeAcceptsEveryCallSpec)) fnWhileOpenNewScopeAcceptsEveryCallCard
end Rows
end Go.Proofs.Qxb6605891aDoor
