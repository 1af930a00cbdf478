/-
  DERIVED. GIVEN WITH THE SEED: THE CARDS: each row of YouaywFmtRows.lean that lists a variable, with what it lists TIED to the program's text (the seventh form; the later family's looks); each row that meets fmt, with fmt's text TOLD by the authors' own Lean function (tested against real Go, not proved from fmt's source: count such statements apart). THE CARD IS WHAT COUNTS. Prove the row's statement (the work); the ties are given (YouaywFmtTie.lean); close each card by the builder's one call (the guide's Derived/Test/ToyasCard.lean, 'card_holds'). Laid BY PROGRAM, IN A SANDBOX (cutbox-door.mjs). By AI agents, Wed Nov 11 2026. No macro, syntax, notation, axiom, sorry.
-/
import Derived.Test.YouaywFmtRows
import GoSem.ClaimSeven
namespace Go.Proofs.YouaywFmt
namespace Rows

/-- THE TOLD AND TIED CARD OF 'zzlaws_root_b21.FnTokTypeStringTable'. -/
def fnTokTypeStringTableCard : Claim7 := { stood := { row := fnTokTypeStringTableRow, standIns := [], harness := (true, "7a9027907e6b2e00083bc0a08b37b2623427b2d8c64335ecb87c14098cf358a6"), looks := false }, told := true, laidByText := true, laidKinds := [.data], laidTests := true, laidLooks := .later, goes := false }
def FnTokTypeStringTableToldSaid : Prop := Claim7.holds Uayg.pinned (.plain (OpenSpec.ofChange fnTokTypeStringTableSpec)) fnTokTypeStringTableCard
/-- ITS FALSE NEIGHBOUR. Refute it at one input. -/
def FnTokTypeStringTableToldWrongFalsely : Prop := Claim7.holds Uayg.pinned (.plain (OpenSpec.ofChange fnTokTypeStringTableWrong)) fnTokTypeStringTableCard

/-- THE TOLD AND TIED CARD OF 'zzlaws_root_b21.FnTokTypeStringInjective'. -/
def fnTokTypeStringInjectiveCard : Claim7 := { stood := { row := fnTokTypeStringInjectiveRow, standIns := [], harness := (true, "7a9027907e6b2e00083bc0a08b37b2623427b2d8c64335ecb87c14098cf358a6"), looks := false }, told := true, laidByText := true, laidKinds := [.data], laidTests := true, laidLooks := .later, goes := false }
def FnTokTypeStringInjectiveToldSaid : Prop := Claim7.holds Uayg.pinned (.plain (OpenSpec.ofChange fnTokTypeStringInjectiveSpec)) fnTokTypeStringInjectiveCard
/-- ITS FALSE NEIGHBOUR. Refute it at one input. -/
def FnTokTypeStringInjectiveToldWrongFalsely : Prop := Claim7.holds Uayg.pinned (.plain (OpenSpec.ofChange fnTokTypeStringInjectiveWrong)) fnTokTypeStringInjectiveCard
end Rows
end Go.Proofs.YouaywFmt
