/-
  THE WALK of FnTokTypeStringInjective, whatever the input.
-/
import Derived.Test.YouaywFmtTokWalks
namespace Go.Proofs.YouaywFmt
open Go.RowKit Tok

set_option maxRecDepth 100000 in
set_option maxHeartbeats 400000 in
theorem inj_out1 (i j : Int) (w : World) (h0 : i < 0) :
    Calls Uayg.prog 4 #[.int .i64 i, .int .i64 j] w fun e w' => e = .returned (.bool true) ∧ ∃ n, w' = w.drewN n := by
  go_enter Uayg.func4, Uayg.ntmps4
  go_wp2
  all_goals go_ret
  all_goals exact ⟨rfl, 0, rfl⟩

set_option maxRecDepth 100000 in
set_option maxHeartbeats 400000 in
theorem inj_out2 (i j : Int) (w : World) (h0 : 30 < i) :
    Calls Uayg.prog 4 #[.int .i64 i, .int .i64 j] w fun e w' => e = .returned (.bool true) ∧ ∃ n, w' = w.drewN n := by
  go_enter Uayg.func4, Uayg.ntmps4
  go_wp2
  all_goals go_ret
  all_goals exact ⟨rfl, 0, rfl⟩

set_option maxRecDepth 100000 in
set_option maxHeartbeats 400000 in
theorem inj_out3 (i j : Int) (w : World) (hi : 0 ≤ i) (hi2 : i ≤ 30) (h0 : j < 0) :
    Calls Uayg.prog 4 #[.int .i64 i, .int .i64 j] w fun e w' => e = .returned (.bool true) ∧ ∃ n, w' = w.drewN n := by
  go_enter Uayg.func4, Uayg.ntmps4
  go_wp2
  all_goals go_ret
  all_goals exact ⟨rfl, 0, rfl⟩

set_option maxRecDepth 100000 in
set_option maxHeartbeats 400000 in
theorem inj_out4 (i j : Int) (w : World) (hi : 0 ≤ i) (hi2 : i ≤ 30) (h0 : 30 < j) :
    Calls Uayg.prog 4 #[.int .i64 i, .int .i64 j] w fun e w' => e = .returned (.bool true) ∧ ∃ n, w' = w.drewN n := by
  go_enter Uayg.func4, Uayg.ntmps4
  go_wp2
  all_goals go_ret
  all_goals exact ⟨rfl, 0, rfl⟩

set_option maxRecDepth 100000 in
set_option maxHeartbeats 400000 in
/-- Inside the table, the two names being variables. -/
theorem inj_core (i j : Nat) (A B : ByteArray) (w : World) (hi : i < 31) (hj : j < 31)
    (hA : ∀ n : Nat, Calls Uayg.prog 5 #[.int .i64 (i : Int)] (w.drewN n) fun e w' => e = .returned (.string A) ∧ ∃ m, w' = w.drewN m)
    (hB : ∀ n : Nat, Calls Uayg.prog 5 #[.int .i64 (j : Int)] (w.drewN n) fun e w' => e = .returned (.string B) ∧ ∃ m, w' = w.drewN m)
    (hAB : (A.toList == B.toList) = ((i : Int) == (j : Int))) (h3 : 3 ≤ A.size)
    (hA0 : (A[0]'(by omega)).toNat = 116) (hlo : (65 : Int) ≤ ((A[1]'(by omega)).toNat : Int)) (hhi : ((A[1]'(by omega)).toNat : Int) ≤ 90) :
    Calls Uayg.prog 4 #[.int .i64 (i : Int), .int .i64 (j : Int)] w fun e w' => e = .returned (.bool true) ∧ ∃ n, w' = w.drewN n := by
  have HA : Hid (∀ n : Nat, Calls Uayg.prog 5 #[.int .i64 (i : Int)] (w.drewN n) fun e w' => e = .returned (.string A) ∧ ∃ m, w' = w.drewN m) := hA
  have HB : Hid (∀ n : Nat, Calls Uayg.prog 5 #[.int .i64 (j : Int)] (w.drewN n) fun e w' => e = .returned (.string B) ∧ ∃ m, w' = w.drewN m) := hB
  clear hA hB
  go_enter Uayg.func4, Uayg.ntmps4
  go_wp2_with fail
  refine (HA.out 0).mono ?_
  rintro e w1 ⟨rfl, m, rfl⟩
  go_wp2_with fail
  refine (HB.out m).mono ?_
  rintro e w2 ⟨rfl, k, rfl⟩
  go_wp2_with fail
  go_ret
  exact ⟨by simp, _, rfl⟩

theorem same_name (i j : Nat) (hi : i < 31) (hj : j < 31) : ((tok i).toList == (tok j).toList) = ((i : Int) == (j : Int)) := by
  rw [ByteArray.toList_eq, ByteArray.toList_eq, apart_all ⟨i, hi⟩ ⟨j, hj⟩, Bool.eq_iff_iff]
  simp
  omega

/-- Inside the table. -/
theorem inj_mid (i j : Nat) (w : World) (hi : i < 31) (hj : j < 31) (ht : TabCells w) :
    Calls Uayg.prog 4 #[.int .i64 (i : Int), .int .i64 (j : Int)] w fun e w' => e = .returned (.bool true) ∧ ∃ n, w' = w.drewN n := by
  have H5 : ∀ (k n : Nat), k < 31 → Calls Uayg.prog 5 #[.int .i64 (k : Int)] (w.drewN n) fun e w' => e = .returned (.string (tok k)) ∧ ∃ m, w' = w.drewN m :=
    fun k n hk => (zz_tok k (w.drewN n) hk (ht.drewN n)).mono (fun e w' ⟨he, m, hm⟩ => ⟨he, n + m, by rw [hm, World.drewN_drewN]⟩)
  obtain ⟨h3, hA0, hlo, hhi⟩ := spelt_all ⟨i, hi⟩
  exact inj_core i j (tok i) (tok j) w hi hj (fun n => H5 i n hi) (fun n => H5 j n hj) (same_name i j hi hj) h3 hA0 (Int.ofNat_le.2 hlo) (Int.ofNat_le.2 hhi)
end Go.Proofs.YouaywFmt
