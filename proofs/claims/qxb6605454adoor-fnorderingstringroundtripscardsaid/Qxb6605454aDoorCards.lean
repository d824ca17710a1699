/-
  DERIVED. GIVEN WITH THE SEED: THE CARDS: each row of Qxb6605454aDoorRows.lean that lists a variable, with what it lists TIED to the program's text (the seventh form; the later family's looks); each row that meets fmt, with fmt's text TOLD by the authors' own Lean function (tested against real Go, not proved from fmt's source: count such statements apart). THE CARD IS WHAT COUNTS. Prove the row's statement (the work); the ties are given (Qxb6605454aDoorTie.lean); close each card by the builder's one call (the guide's Derived/Test/ToyasCard.lean, 'card_holds'). Laid BY PROGRAM, IN A SANDBOX (cutbox-door.mjs). By AI agents, Wed Nov 11 2026. No macro, syntax, notation, axiom, sorry.
-/
import Derived.Test.Qxb6605454aDoorRows
import GoSem.ClaimSeven
namespace Go.Proofs.Qxb6605454aDoor
namespace Rows

/-- THE TIED CARD OF 'zzlaws_root_b1.FnOrderingStringRoundTrips'. -/
def fnOrderingStringRoundTripsCard : Claim7 := { stood := { row := fnOrderingStringRoundTripsRow, standIns := [], harness := (true, "bd0dd6f6f2b4c0b254c8b02aaec183b16e3fba8217f318dbb1550645fda34eb8"), looks := false }, kinds := [], alts := [], laidByText := true, laidKinds := [.data, .data, .data], laidTests := true, laidLooks := .later }
def FnOrderingStringRoundTripsCardSaid : Prop := Claim7.holds Tryd.pinned (.plain (OpenSpec.ofChange fnOrderingStringRoundTripsSpec)) fnOrderingStringRoundTripsCard
end Rows
end Go.Proofs.Qxb6605454aDoor
