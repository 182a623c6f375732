/-
  DERIVED. GIVEN WITH THE SEED: THE CARDS: each row of Qxb6613926aDoorRows.lean that lists a variable, with what it lists TIED to the program's text (the seventh form; the later family's looks); each row that meets fmt, with fmt's text TOLD by the authors' own Lean function (tested against real Go, not proved from fmt's source: count such statements apart). THE CARD IS WHAT COUNTS. Prove the row's statement (the work); the ties are given (Qxb6613926aDoorTie.lean); close each card by the builder's one call (the guide's Derived/Test/ToyasCard.lean, 'card_holds'). Laid BY PROGRAM, IN A SANDBOX (cutbox-door.mjs). By AI agents, Wed Nov 11 2026. No macro, syntax, notation, axiom, sorry.
-/
import Derived.Test.Qxb6613926aDoorRows
import GoSem.ClaimSeven
namespace Go.Proofs.Qxb6613926aDoor
namespace Rows

/-- THE TIED CARD OF 'zzlaws_root_b1.FnDefinedExactlyWhenStringNamesAType'. -/
def fnDefinedExactlyWhenStringNamesATypeCard : Claim7 := { stood := { row := fnDefinedExactlyWhenStringNamesATypeRow, standIns := [], harness := (true, "e9219ffb7144a22b65aaa4b6938cb1d9532d01ac5f688c977a3fac274978b369"), looks := false }, kinds := [], alts := [], laidByText := true, laidKinds := [.data, .data, .data, .widerDeep], laidTests := true, laidLooks := .later }
def FnDefinedExactlyWhenStringNamesATypeCardSaid : Prop := Claim7.holds Tryd.pinned (.plain (OpenSpec.ofChange fnDefinedExactlyWhenStringNamesATypeSpec)) fnDefinedExactlyWhenStringNamesATypeCard

/-- THE TIED CARD OF 'zzlaws_root_b1.FnDefinedTypesAreFiveWithDistinctNamesAndDataLengths'. -/
def fnDefinedTypesAreFiveWithDistinctNamesAndDataLengthsCard : Claim7 := { stood := { row := fnDefinedTypesAreFiveWithDistinctNamesAndDataLengthsRow, standIns := [], harness := (true, "e9219ffb7144a22b65aaa4b6938cb1d9532d01ac5f688c977a3fac274978b369"), looks := false }, kinds := [], alts := [], laidByText := true, laidKinds := [.data, .data, .data, .widerDeep], laidTests := true, laidLooks := .later }
def FnDefinedTypesAreFiveWithDistinctNamesAndDataLengthsCardSaid : Prop := Claim7.holds Tryd.pinned (.plain (OpenSpec.ofChange fnDefinedTypesAreFiveWithDistinctNamesAndDataLengthsSpec)) fnDefinedTypesAreFiveWithDistinctNamesAndDataLengthsCard
end Rows
end Go.Proofs.Qxb6613926aDoor
