/-
  DERIVED. GIVEN WITH THE SEED: THE CARDS: each row of Qxb6613649aDoorRows.lean that lists a variable, with what it lists TIED to the program's text (the seventh form; the later family's looks); each row that meets fmt, with fmt's text TOLD by the authors' own Lean function (tested against real Go, not proved from fmt's source: count such statements apart). THE CARD IS WHAT COUNTS. Prove the row's statement (the work); the ties are given (Qxb6613649aDoorTie.lean); close each card by the builder's one call (the guide's Derived/Test/ToyasCard.lean, 'card_holds'). Laid BY PROGRAM, IN A SANDBOX (cutbox-door.mjs). By AI agents, Wed Nov 11 2026. No macro, syntax, notation, axiom, sorry.
-/
import Derived.Test.Qxb6613649aDoorRows
import GoSem.ClaimSeven
namespace Go.Proofs.Qxb6613649aDoor
namespace Rows

/-- THE TIED CARD OF 'zzlaws_pattern_b1.FnIsNameIffPlaceholderRoundTrips'. -/
def fnIsNameIffPlaceholderRoundTripsCard : Claim7 := { stood := { row := fnIsNameIffPlaceholderRoundTripsRow, standIns := [], harness := (true, "5b5f1e57ea99b8046111bec246caeaa1b53cdac462bd8496bc9ec1866268734c"), looks := false }, kinds := [], alts := [], laidByText := true, laidKinds := [.data, .sentinel, .pinned], laidTests := true, laidLooks := .later }
def FnIsNameIffPlaceholderRoundTripsCardSaid : Prop := Claim7.holds Tryd.pinned (.plain (OpenSpec.ofChange fnIsNameIffPlaceholderRoundTripsSpec)) fnIsNameIffPlaceholderRoundTripsCard

/-- THE TIED CARD OF 'zzlaws_pattern_b1.FnIsNameCutAtAnyPoint'. -/
def fnIsNameCutAtAnyPointCard : Claim7 := { stood := { row := fnIsNameCutAtAnyPointRow, standIns := [], harness := (true, "5b5f1e57ea99b8046111bec246caeaa1b53cdac462bd8496bc9ec1866268734c"), looks := false }, kinds := [], alts := [], laidByText := true, laidKinds := [.data, .sentinel, .pinned], laidTests := true, laidLooks := .later }
def FnIsNameCutAtAnyPointCardSaid : Prop := Claim7.holds Tryd.pinned (.plain (OpenSpec.ofChange fnIsNameCutAtAnyPointSpec)) fnIsNameCutAtAnyPointCard
end Rows
end Go.Proofs.Qxb6613649aDoor
