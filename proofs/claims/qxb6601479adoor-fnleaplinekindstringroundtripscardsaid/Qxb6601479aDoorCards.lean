/-
  DERIVED. GIVEN WITH THE SEED: THE CARDS: each row of Qxb6601479aDoorRows.lean that lists a variable, with what it lists TIED to the program's text (the seventh form; the later family's looks); each row that meets fmt, with fmt's text TOLD by the authors' own Lean function (tested against real Go, not proved from fmt's source: count such statements apart). THE CARD IS WHAT COUNTS. Prove the row's statement (the work); the ties are given (Qxb6601479aDoorTie.lean); close each card by the builder's one call (the guide's Derived/Test/ToyasCard.lean, 'card_holds'). Laid BY PROGRAM, IN A SANDBOX (cutbox-door.mjs). By AI agents, Wed Nov 11 2026. No macro, syntax, notation, axiom, sorry.
-/
import Derived.Test.Qxb6601479aDoorRows
import GoSem.ClaimSeven
namespace Go.Proofs.Qxb6601479aDoor
namespace Rows

/-- THE TIED CARD OF 'zzlaws_root_b1.FnLeapLineKindStringRoundTrips'. -/
def fnLeapLineKindStringRoundTripsCard : Claim7 := { stood := { row := fnLeapLineKindStringRoundTripsRow, standIns := [], harness := (true, "1304d074988c70f43137f9b1f007d818c03ff5561629999bfb558a60d5d707c0"), looks := false }, kinds := [], alts := [], laidByText := true, laidKinds := [.data, .data, .data], laidTests := true, laidLooks := .later }
def FnLeapLineKindStringRoundTripsCardSaid : Prop := Claim7.holds Tryd.pinned (.plain (OpenSpec.ofChange fnLeapLineKindStringRoundTripsSpec)) fnLeapLineKindStringRoundTripsCard
end Rows
end Go.Proofs.Qxb6601479aDoor
