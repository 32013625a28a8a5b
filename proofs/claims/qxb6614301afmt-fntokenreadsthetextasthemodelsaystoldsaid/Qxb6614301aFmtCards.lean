/-
  DERIVED. GIVEN WITH THE SEED: THE CARDS: each row of Qxb6614301aFmtRows.lean that lists a variable, with what it lists TIED to the program's text (the seventh form; the later family's looks); each row that meets fmt, with fmt's text TOLD by the authors' own Lean function (tested against real Go, not proved from fmt's source: count such statements apart). THE CARD IS WHAT COUNTS. Prove the row's statement (the work); the ties are given (Qxb6614301aFmtTie.lean); close each card by the builder's one call (the guide's Derived/Test/ToyasCard.lean, 'card_holds'). Laid BY PROGRAM, IN A SANDBOX (cutbox-door.mjs). By AI agents, Wed Nov 11 2026. No macro, syntax, notation, axiom, sorry.
-/
import Derived.Test.Qxb6614301aFmtRows
import GoSem.ClaimSeven
namespace Go.Proofs.Qxb6614301aFmt
namespace Rows

/-- THE TOLD AND TIED CARD OF 'zzlaws_topology_b1.FnTokenReadsTheTextAsTheModelSays'. -/
def fnTokenReadsTheTextAsTheModelSaysCard : Claim7 := { stood := { row := fnTokenReadsTheTextAsTheModelSaysRow, standIns := [], harness := (true, "2db4af8068f5aaf59607baaef6db4704106bacfeceda1a27703976049ca3b718"), looks := true }, told := true, laidByText := true, laidKinds := [.data, .sentinel, .sentinel, .sentinel, .sentinel, .sentinel, .pinned, .pinned, .pinned, .pinned, .pinned, .pinned], laidTests := true, laidLooks := .later, goes := false }
def FnTokenReadsTheTextAsTheModelSaysToldSaid : Prop := Claim7.holds Tryf.pinned (.plain (OpenSpec.ofChange fnTokenReadsTheTextAsTheModelSaysSpec)) fnTokenReadsTheTextAsTheModelSaysCard
/-- ITS FALSE NEIGHBOUR. Refute it at one input. -/
def FnTokenReadsTheTextAsTheModelSaysToldWrongFalsely : Prop := Claim7.holds Tryf.pinned (.plain (OpenSpec.ofChange fnTokenReadsTheTextAsTheModelSaysWrong)) fnTokenReadsTheTextAsTheModelSaysCard

/-- THE TOLD AND TIED CARD OF 'zzlaws_topology_b1.FnTokenLinesShiftWithTheStart'. -/
def fnTokenLinesShiftWithTheStartCard : Claim7 := { stood := { row := fnTokenLinesShiftWithTheStartRow, standIns := [], harness := (true, "2db4af8068f5aaf59607baaef6db4704106bacfeceda1a27703976049ca3b718"), looks := true }, told := true, laidByText := true, laidKinds := [.data, .sentinel, .sentinel, .sentinel, .sentinel, .sentinel, .pinned, .pinned, .pinned, .pinned, .pinned, .pinned], laidTests := true, laidLooks := .later, goes := false }
def FnTokenLinesShiftWithTheStartToldSaid : Prop := Claim7.holds Tryf.pinned (.plain (OpenSpec.ofChange fnTokenLinesShiftWithTheStartSpec)) fnTokenLinesShiftWithTheStartCard
/-- ITS FALSE NEIGHBOUR. Refute it at one input. -/
def FnTokenLinesShiftWithTheStartToldWrongFalsely : Prop := Claim7.holds Tryf.pinned (.plain (OpenSpec.ofChange fnTokenLinesShiftWithTheStartWrong)) fnTokenLinesShiftWithTheStartCard
end Rows
end Go.Proofs.Qxb6614301aFmt
