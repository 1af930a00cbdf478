/-
  DERIVED. GIVEN WITH THE SEED: THE PROGRAM's TIES (one call each: nine closed facts by the kernel) AND EACH ROW's TIE, after the 31st guide's Derived/Test/Toyas{Tie, Card}.lean. No idea stands in it: it is a product of the set-up. Laid BY PROGRAM, IN A SANDBOX (cutbox-door.mjs). By AI agents, Wed Nov 11 2026. No macro, syntax, notation, axiom, sorry.
-/
import Derived.Test.YouaywFmtRows
import Derived.LaidByTextLater
import Derived.SevenTiedAt
import Derived.LaidSub
import Derived.LaidOnce
namespace Go.Proofs.YouaywFmt
open Go
set_option maxRecDepth 100000
theorem seatTie1 : Uayg.prog.laidByTextLater [("github.com/jmespath/go-jmespath._tokType_index", Rows.laid_github_com_jmespath_go_jmespath_tokType_index)] [.data] true :=
  Program.laidByTextLater_by_one 14 8 33 (by kernel_rfl) (by kernel_rfl) (by kernel_rfl) (by kernel_rfl) (by kernel_rfl) (by kernel_rfl) (fun _ _ => by kernel_rfl)
theorem noOwnUnsafe : Uayg.pinned.checked.prog.headLifts.contains "ownunsafe" = false := by kernel_rfl
theorem tie : Uayg.prog.laidByTextLater [("github.com/jmespath/go-jmespath._tokType_index", Rows.laid_github_com_jmespath_go_jmespath_tokType_index)] [.data] true :=
  Program.laidByTextLater.sub seatTie1 ["github.com/jmespath/go-jmespath._tokType_index"] (by kernel_rfl) (by kernel_rfl)
theorem fnTokTypeStringTable_row_tie : Rows.fnTokTypeStringTableRow.laidByTextAt .later Uayg.pinned [.data] true :=
  OpenClaim.laidByTextAt_later rfl rfl tie noOwnUnsafe
theorem fnTokTypeStringInjective_row_tie : Rows.fnTokTypeStringInjectiveRow.laidByTextAt .later Uayg.pinned [.data] true :=
  OpenClaim.laidByTextAt_later rfl rfl tie noOwnUnsafe
end Go.Proofs.YouaywFmt
