/-
  THE WALK of FnTokTypeStringTable, whatever the input.
-/
import Derived.Test.YouaywFmtTokWalks
import Derived.Test.YouaywFmtTokName
namespace Go.Proofs.YouaywFmt
open Go.RowKit Tok

theorem eof_is : (tok 30).toList = [116, 69, 79, 70] := by
  rw [ByteArray.toList_eq, tok_lits ⟨30, by decide⟩]
  rfl

set_option maxRecDepth 100000 in
set_option maxHeartbeats 400000 in
/-- Below the table. -/
theorem table_low (i : Int) (w : World) (h0 : i < 0) :
    Calls Uayg.prog 3 #[.int .i64 i] w fun e w' => e = .returned (.bool true) ∧ ∃ n, w' = w.drewN n := by
  go_enter Uayg.func3, Uayg.ntmps3
  go_wp2
  go_ret
  exact ⟨rfl, 0, rfl⟩

set_option maxRecDepth 100000 in
set_option maxHeartbeats 400000 in
/-- Above the table. -/
theorem table_high (i : Int) (w : World) (h0 : 30 < i) :
    Calls Uayg.prog 3 #[.int .i64 i] w fun e w' => e = .returned (.bool true) ∧ ∃ n, w' = w.drewN n := by
  go_enter Uayg.func3, Uayg.ntmps3
  go_wp2
  go_ret
  exact ⟨rfl, 0, rfl⟩

set_option maxRecDepth 100000 in
set_option maxHeartbeats 400000 in
/-- Inside the table. -/
theorem table_mid (i : Nat) (w : World) (h1 : i < 31) (ht : TabCells w) :
    Calls Uayg.prog 3 #[.int .i64 (i : Int)] w fun e w' => e = .returned (.bool true) ∧ ∃ n, w' = w.drewN n := by
  have H6 : Hid (∀ w, Calls Uayg.prog 6 #[] w fun e w' => e = .returned (.int .i64 30) ∧ w' = w) := zz_eof
  have H7 : Hid (∀ w, Calls Uayg.prog 7 #[.int .i64 (i : Int)] w fun e w' => e = .returned (.string (tok i)) ∧ w' = w) :=
    fun w => name_any (i : Int) w (by omega) (by omega)
  have H5 : Hid (∀ (k n : Nat), k < 31 → Calls Uayg.prog 5 #[.int .i64 (k : Int)] (w.drewN n) fun e w' => e = .returned (.string (tok k)) ∧ ∃ m, w' = w.drewN m) :=
    fun k n hk => (zz_tok k (w.drewN n) hk (ht.drewN n)).mono (fun e w' ⟨he, m, hm⟩ => ⟨he, n + m, by rw [hm, World.drewN_drewN]⟩)
  have heof := eof_is
  clear ht
  go_enter Uayg.func3, Uayg.ntmps3
  go_wp2_with fail
  refine (H6.out w).mono ?_
  rintro e w1 ⟨rfl, hw1⟩
  subst hw1
  go_wp2_with fail
  refine (H5.out 30 0 (by decide)).mono ?_
  rintro e w2 ⟨rfl, m, rfl⟩
  go_wp2_with fail
  refine (H5.out i m h1).mono ?_
  rintro e w3 ⟨rfl, k, rfl⟩
  go_wp2_with fail
  refine (H7.out _).mono ?_
  rintro e w4 ⟨rfl, hw4⟩
  subst hw4
  go_wp2_with fail
  go_ret
  exact ⟨by simp, _, rfl⟩

end Go.Proofs.YouaywFmt
