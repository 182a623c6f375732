import Derived.Test.Qxb6613926aDoorLaid
import Derived.Test.Qxb6613926aDoorLawB
import Derived.Test.Qxb6613926aDoorTie
import Derived.Test.Qxb6613926aDoorCards
import Derived.SevenTiedAt
namespace Go.Proofs.Qxb6613926aDoor.Au
open Go.ChangeShapes Go.WideShapes Go.ChangeAt Go.RowKit
set_option linter.unusedVariables false

set_option maxRecDepth 100000 in
theorem liftedB (os : Os) (started : os.Started) (H : Type) (enc : TypeId × Value → H) :
    ReturnsInHanded {} Tryd.checked os 4 .any (fun w args => (Rows.fnDefinedTypesAreFiveWithDistinctNamesAndDataLengthsSpec.pre enc Tryd.prog Tryd.f4 [] false w args ∧ laidMetH Tryd.prog laid4 w) ∧ sizedMet enc Tryd.prog Tryd.f4 (OpenSpec.ofChange Rows.fnDefinedTypesAreFiveWithDistinctNamesAndDataLengthsSpec) false w args)
      (Rows.fnDefinedTypesAreFiveWithDistinctNamesAndDataLengthsSpec.post enc Tryd.prog Tryd.f4 false true false false) := by
  refine returnsInHanded_of_change_and (C := Tryd.checked) (X := fun w _ => laidMetH Tryd.prog laid4 w) (fun _ _ _ hh h => h.of_heap hh) own started (by kernel_rfl) Tryd.func4
    (ChangeSpec.witness_shaped (enc := enc) (C := Tryd.checked) (os := os) (X := fun w _ => laidMetH Tryd.prog laid4 w) false (World.doorLaid Tryd.prog 35 os) #[] 8 rfl (World.shaped_of_RefB (by kernel_rfl) (by kernel_rfl)) (by kernel_rfl) (by kernel_rfl) (by kernel_rfl) (door_met os _)) ?_
  intro W base args ds gs before hval0 hW _ _ hL _
  have hval : ∀ (j : Nat) t v, Tryd.f4.params[j]? = some t → args[j]? = some v → Value.okWide Tryd.prog W .any base t v := hval0
  have hW' := hW
  obtain ⟨p, q, hA0, hV0, rfl, hfz, hnd⟩ := hW
  have hA : DataW.TrodAll enc Tryd.prog W 0 (fun _ => true) true Tryd.f4.params.toList args.toList ds p := hA0
  have hV : DataW.TrodVars enc Tryd.prog W (fun _ => true) [vAuth] gs q := hV0
  rw [Tryd.params4] at hA hval
  obtain ⟨hargs, rfl, rfl⟩ := trodAll_none hA
  obtain rfl : args = #[] := by cases args; simp_all
  obtain ⟨g, t, cs, fuel, d, p', rfl, hg, ht, hvar, hd, rfl⟩ := trodVars_one hV
  obtain rfl := Option.some.inj (gAuth.symm.trans hg)
  obtain rfl := Option.some.inj (tAuth.symm.trans ht)
  obtain ⟨hT, hP⟩ := of_laid hL
  clear hA0 hval0 hV0
  refine (lawB W hT).mono fun e W' ⟨he, bel⟩ => ?_
  subst he
  obtain ⟨fuel', hv'⟩ := vars_kept hd hvar bel
  exact ⟨_, rfl, _, _, _, [], [], MemPlace.row ⟨0, 0, none⟩ cs.size ++ p', hW', trodAll_mk1 (shut_bool Tryd.underlying4 _), trodAll_mk0,
    trodVars_mk1 hg ht (var?_below bel hg (var_lt hvar) hvar) hv', bel.frame _, fun h => by cases h⟩

theorem overB : Rows.FnDefinedTypesAreFiveWithDistinctNamesAndDataLengthsSaid :=
  OpenClaim.holds_of_wide 4 Tryd.f4 rfl rfl rfl rfl rfl rfl rfl ⟨rfl, rfl, rfl, rfl, rfl⟩ rfl rfl rfl rfl rfl (by kernel_rfl) Tryd.func4 (by kernel_rfl)
    (of_decide_eq_true (by kernel_rfl)) (by unfold Func.isWrapper; first | (rw [if_pos (by decide +kernel)]; kernel_rfl) | (rw [if_neg (by decide +kernel)]; exact ⟨rfl, rfl⟩))
    (fun os started H enc _ => liftedB os started H enc)
end Go.Proofs.Qxb6613926aDoor.Au
namespace Go.Proofs.Qxb6613926aDoor
/-- ████ THE CARD ████ -/
theorem fnDefinedTypesAreFiveWithDistinctNamesAndDataLengths_card : Rows.FnDefinedTypesAreFiveWithDistinctNamesAndDataLengthsCardSaid :=
  Claim7.holds_tied_plain_at .later [] [.data, .data, .data, .widerDeep] true Rows.fnDefinedTypesAreFiveWithDistinctNamesAndDataLengthsCard.stood.harness false
    Au.overB (fun _ h => by cases h) (by kernel_rfl) (fun _ h => by cases h) fnDefinedTypesAreFiveWithDistinctNamesAndDataLengths_row_tie rfl ⟨rfl, rfl⟩ (by kernel_rfl) rfl
    (fun f fn hf hfn => by
      obtain rfl : f = 4 := Option.some.inj ((show Tryd.prog.funcNamed Rows.fnDefinedTypesAreFiveWithDistinctNamesAndDataLengthsRow.func = some 4 by kernel_rfl).symm.trans hf) |>.symm
      obtain rfl : fn = Tryd.f4 := (Option.some.inj (Tryd.func4.symm.trans hfn)).symm
      exact ⟨by kernel_rfl, fun j t ht => by
        rw [Tryd.params4] at ht
        simp at ht⟩)
    (by kernel_rfl)
end Go.Proofs.Qxb6613926aDoor
