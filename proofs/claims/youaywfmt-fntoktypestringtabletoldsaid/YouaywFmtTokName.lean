/-
  THE WALK of zzTokName: the law's own table of names, at 0 .. 30.
-/
import Derived.Test.YouaywFmtProg
import Derived.Test.YouaywFmtTokPlain
import Derived.WalkKit
import Derived.WalkSpells
namespace Go.Proofs.YouaywFmt
open Go.RowKit Tok

set_option maxRecDepth 100000 in
set_option maxHeartbeats 4000000 in
/-- zzTokName inside the table: the switch's own literal is the piece of the text; nothing is written. -/
theorem name_any (i : Int) (w : World) (h0 : 0 ≤ i) (h1 : i < 31) :
    Calls Uayg.prog 7 #[.int .i64 i] w fun e w' => e = .returned (.string (tok i.toNat)) ∧ w' = w := by
  go_enter Uayg.func7, Uayg.ntmps7
  go_wp2
  all_goals go_ret
  all_goals
    have hl := tok_lits ⟨i.toNat, by omega⟩
    have hk := eq_of_beq (show (i == _) = true by assumption)
    subst hk
    exact ⟨congrArg (fun s => Ending.returned (Value.string s)) hl.symm, rfl⟩
end Go.Proofs.YouaywFmt
