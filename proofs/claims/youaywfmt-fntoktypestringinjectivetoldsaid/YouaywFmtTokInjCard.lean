/-
  FnTokTypeStringInjective: THE ROW, AND ITS CARD (told and tied).
-/
import Derived.Test.YouaywFmtTokKit
import Derived.Test.YouaywFmtTokInj
namespace Go.Proofs.YouaywFmt
open Go.ChangeShapes Go.WideShapes Go.ChangeAt Go.RowKit
open Go.Extern.Stop Go.Stop Go.Extern Tok

/-- Whatever the input. -/
theorem inj_any (i j : Int) (w : World) (ht : TabCells w) :
    Calls Uayg.prog 4 #[.int .i64 i, .int .i64 j] w fun e w' => e = .returned (.bool true) ∧ ∃ n, w' = w.drewN n := by
  by_cases h0 : i < 0
  · exact inj_out1 i j w h0
  by_cases h1 : 30 < i
  · exact inj_out2 i j w h1
  by_cases h2 : j < 0
  · exact inj_out3 i j w (by omega) (by omega) h2
  by_cases h3 : 30 < j
  · exact inj_out4 i j w (by omega) (by omega) h3
  have h := inj_mid i.toNat j.toNat w (by omega) (by omega) ht
  rwa [Int.toNat_of_nonneg (by omega), Int.toNat_of_nonneg (by omega)] at h

set_option maxRecDepth 100000 in
theorem inj_lifted (os : Os) (started : os.Started) (H : Type) (enc : TypeId × Value → H) :
    ReturnsInTold none {} Uayg.checked os 4 .any Input.okWide ((OpenSpec.ofChange Rows.fnTokTypeStringInjectiveSpec).preRow enc Uayg.prog Uayg.f4 [] false Rows.fnTokTypeStringInjectiveRow.laid)
      (fun F => ((OpenSpec.ofChange Rows.fnTokTypeStringInjectiveSpec).at F).post enc Uayg.prog Uayg.f4 false true false false) (aloneAtReturn Uayg.prog) nothingAlways := by
  refine returnsInTold_of_row (C := Uayg.checked) (s := OpenSpec.ofChange Rows.fnTokTypeStringInjectiveSpec) (by kernel_rfl) Uayg.own started (by kernel_rfl) Uayg.func4
    (OpenSpec.witness_stopped_atRef (enc := enc) (C := Uayg.checked) false (World.doorLaid Uayg.prog 14 os) #[.int .i64 0, .int .i64 0] rfl (by kernel_rfl) (by kernel_rfl) (by kernel_rfl)
      (OpenSpec.preRow_of_B rfl 8 (by kernel_rfl) (by kernel_rfl) (door_met os _))) ?_
  intro F W base args ds gs before _ _ hval0 hW _ _ _ hL _
  have hval : ∀ (j : Nat) t v, Uayg.f4.params[j]? = some t → args[j]? = some v → Value.okWide Uayg.prog W .any base t v := hval0
  have hW' := hW
  obtain ⟨p, q, hA0, hV, rfl, hfz, hnd⟩ := hW
  have hA : DataW.TrodAll enc Uayg.prog W 0 (fun _ => true) true Uayg.f4.params.toList args.toList ds p := hA0
  rw [Uayg.params4] at hA hval
  obtain ⟨v0, v1, d0, d1, p0, p1, rfl, rfl, rfl, h0, h1⟩ := trodAll_two hA
  obtain ⟨i, rfl, rfl, rfl, wi⟩ := open_int Uayg.underlying3 (hval 0 3 v0 rfl rfl) h0
  obtain ⟨j, rfl, rfl, rfl, wj⟩ := open_int Uayg.underlying3 (hval 1 3 v1 rfl rfl) h1
  obtain ⟨_, _, _, _, g, _, rfl, _⟩ := trodVars_one (n := varName) hV
  clear hA0 hval0
  refine (inj_any i j W (cells_of_laid hL)).mono fun e W' ⟨he, n, hw⟩ => ?_
  subst he; subst hw
  have hbelow : Below W.heap.size W (W.drewN n) := below_drewN (Below.refl _ _) n
  refine ⟨_, rfl, _, _, _, [], [], q, hW', ?_, ?_, ?_, hbelow.frame _, fun h => by cases h⟩
  · exact trodAll_mk1 (shut_bool Uayg.underlying4 true)
  · exact trodAll_mk2 (p := []) (shut_int Uayg.underlying3 wi) (shut_int Uayg.underlying3 wj)
  · exact Below.trodVars Uayg.laidOut hbelow (ns := [varName]) (by kernel_rfl) hV

theorem inj_told : Rows.FnTokTypeStringInjectiveToldSaid :=
  Claim7.holds_of_told_tied_any_at .later 4 Uayg.f4 _ [] [] _ _ _ _ _ (by kernel_rfl) rfl rfl rfl Uayg.laidOut (by kernel_rfl) rfl ⟨rfl, rfl, rfl, rfl, rfl, rfl, rfl⟩ rfl rfl (by kernel_rfl) (by kernel_rfl) Uayg.func4 (by kernel_rfl)
    (of_decide_eq_true (by kernel_rfl)) (of_decide_eq_true (by kernel_rfl)) Uayg.stopsAre.symm rfl Uayg.stopKnobs.symm (by kernel_rfl)
    (by kernel_rfl) (by kernel_rfl) (by kernel_rfl) (by kernel_rfl) (by kernel_rfl) (by kernel_rfl) (by kernel_rfl) (by kernel_rfl) (by kernel_rfl) rfl (by kernel_rfl) rfl rfl
    rfl rfl
    rfl (by kernel_rfl) (by kernel_rfl) (by kernel_rfl) (by decide) (by kernel_rfl) fnTokTypeStringInjective_row_tie
    (OpenClaim.moreEntering_of (by kernel_rfl) (by kernel_rfl) (by kernel_rfl) (by kernel_rfl) (by kernel_rfl) (by kernel_rfl) (by kernel_rfl) (by kernel_rfl) (by kernel_rfl) (by kernel_rfl))
    ⟨_, WideRow.started_initial, Uayg.quiet _⟩
    (fun os started _ H enc _ => inj_lifted os started H enc)

end Go.Proofs.YouaywFmt
