/-
  THE WALKS of the small functions on the road: (tokType).String, ZZtokTypeString, ZZtEOF, zzTokName, at the declared token types 0 .. 30.
-/
import Derived.Test.YouaywFmtProg
import Derived.Test.YouaywFmtTokPlain
import Derived.WalkKit
import Derived.WalkSpells
import Derived.BigQuiet
import Derived.Deep.QuietTactic
namespace Go.Proofs.YouaywFmt
open Go.RowKit Tok

/-- The table's cells, in the walk's own form. -/
def TabCells (w : World) : Prop := ∀ j : Nat, j < 32 → w.cell? ⟨0, j, none⟩ = some (.int .u8 (at_ j : Int))

theorem TabCells.drewN {w : World} (h : TabCells w) (n : Nat) : TabCells (w.drewN n) := fun j hj => by rw [World.cell?_drewN]; exact h j hj

set_option maxRecDepth 100000 in
set_option maxHeartbeats 400000 in
/-- (tokType).String inside the table: a piece of the text; nothing is written. -/
theorem string_mid (i a b : Nat) (w : World) (hi : i < 31) (hab : a ≤ b) (hb : b ≤ 214)
    (h1 : w.cell? ⟨0, i, none⟩ = some (.int .u8 (a : Int))) (h2 : w.cell? ⟨0, i + 1, none⟩ = some (.int .u8 (b : Int))) :
    Calls Uayg.prog 8 #[.int .i64 (i : Int)] w fun e w' => e = .returned (.string (names.extract a b)) ∧ ∃ n, w' = w.drewN n := by
  go_enter Uayg.func8, Uayg.ntmps8
  go_wp2
  go_quiet (fail)
  go_wp2
  go_ret
  exact ⟨rfl, _, rfl⟩

theorem string_tok (i : Nat) (w : World) (hi : i < 31) (ht : TabCells w) :
    Calls Uayg.prog 8 #[.int .i64 (i : Int)] w fun e w' => e = .returned (.string (tok i)) ∧ ∃ n, w' = w.drewN n :=
  string_mid i (at_ i) (at_ (i + 1)) w hi (rising ⟨i, hi⟩).1 (rising ⟨i, hi⟩).2 (ht i (by omega)) (ht (i + 1) (by omega))

set_option maxRecDepth 100000 in
set_option maxHeartbeats 400000 in
/-- ZZtokTypeString: the method's own answer, handed on. -/
theorem zz_tok (i : Nat) (w : World) (hi : i < 31) (ht : TabCells w) :
    Calls Uayg.prog 5 #[.int .i64 (i : Int)] w fun e w' => e = .returned (.string (tok i)) ∧ ∃ n, w' = w.drewN n := by
  have hs := string_tok i w hi ht
  have HS : Hid (Calls Uayg.prog 8 #[.int .i64 (i : Int)] w fun e w' => e = .returned (.string (tok i)) ∧ ∃ n, w' = w.drewN n) := hs
  clear hs ht
  go_enter Uayg.func5, Uayg.ntmps5
  go_wp2_with fail
  refine HS.out.mono ?_
  rintro e w' ⟨rfl, n, rfl⟩
  go_wp2
  go_ret
  exact ⟨rfl, _, rfl⟩

set_option maxRecDepth 100000 in
set_option maxHeartbeats 400000 in
theorem zz_eof (w : World) : Calls Uayg.prog 6 #[] w fun e w' => e = .returned (.int .i64 30) ∧ w' = w := by
  go_enter Uayg.func6, Uayg.ntmps6
  go_wp2
  go_ret
  exact ⟨rfl, rfl⟩

end Go.Proofs.YouaywFmt
