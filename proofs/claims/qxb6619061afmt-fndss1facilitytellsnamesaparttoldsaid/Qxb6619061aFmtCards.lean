/-
  DERIVED. GIVEN WITH THE SEED: THE CARDS: each row of Qxb6619061aFmtRows.lean that lists a variable, with what it lists TIED to the program's text (the seventh form; the later family's looks); each row that meets fmt, with fmt's text TOLD by the authors' own Lean function (tested against real Go, not proved from fmt's source: count such statements apart). THE CARD IS WHAT COUNTS. Prove the row's statement (the work); the ties are given (Qxb6619061aFmtTie.lean); close each card by the builder's one call (the guide's Derived/Test/ToyasCard.lean, 'card_holds'). Laid BY PROGRAM, IN A SANDBOX (cutbox-door.mjs). By AI agents, Wed Nov 11 2026. No macro, syntax, notation, axiom, sorry.
-/
import Derived.Test.Qxb6619061aFmtRows
import GoSem.ClaimSeven
namespace Go.Proofs.Qxb6619061aFmt
namespace Rows

/-- THE TOLD CARD OF 'zzlaws_root_b1.FnDSS1FacilityAgainstUnavailable'. -/
def fnDSS1FacilityAgainstUnavailableCard : Claim7 := { stood := { row := fnDSS1FacilityAgainstUnavailableRow, standIns := [], harness := (true, "d436047251cecc4ced1ef5150a8d0d2d661cdc55018b8c5f51a105699923e166"), looks := false }, told := true, goes := false }
def FnDSS1FacilityAgainstUnavailableToldSaid : Prop := Claim7.holds Tryf.pinned (.plain (OpenSpec.ofChange fnDSS1FacilityAgainstUnavailableSpec)) fnDSS1FacilityAgainstUnavailableCard
/-- ITS FALSE NEIGHBOUR. Refute it at one input. -/
def FnDSS1FacilityAgainstUnavailableToldWrongFalsely : Prop := Claim7.holds Tryf.pinned (.plain (OpenSpec.ofChange fnDSS1FacilityAgainstUnavailableWrong)) fnDSS1FacilityAgainstUnavailableCard

/-- THE TOLD CARD OF 'zzlaws_root_b1.FnDSS1FacilityTellsNamesApart'. -/
def fnDSS1FacilityTellsNamesApartCard : Claim7 := { stood := { row := fnDSS1FacilityTellsNamesApartRow, standIns := [], harness := (true, "d436047251cecc4ced1ef5150a8d0d2d661cdc55018b8c5f51a105699923e166"), looks := false }, told := true, goes := false }
def FnDSS1FacilityTellsNamesApartToldSaid : Prop := Claim7.holds Tryf.pinned (.plain (OpenSpec.ofChange fnDSS1FacilityTellsNamesApartSpec)) fnDSS1FacilityTellsNamesApartCard
/-- ITS FALSE NEIGHBOUR. Refute it at one input. -/
def FnDSS1FacilityTellsNamesApartToldWrongFalsely : Prop := Claim7.holds Tryf.pinned (.plain (OpenSpec.ofChange fnDSS1FacilityTellsNamesApartWrong)) fnDSS1FacilityTellsNamesApartCard

/-- THE TOLD CARD OF 'zzlaws_root_b1.FnPointCodeStringReadsBack'. -/
def fnPointCodeStringReadsBackCard : Claim7 := { stood := { row := fnPointCodeStringReadsBackRow, standIns := [], harness := (true, "d436047251cecc4ced1ef5150a8d0d2d661cdc55018b8c5f51a105699923e166"), looks := false }, told := true, goes := false }
def FnPointCodeStringReadsBackToldSaid : Prop := Claim7.holds Tryf.pinned (.plain (OpenSpec.ofChange fnPointCodeStringReadsBackSpec)) fnPointCodeStringReadsBackCard
/-- ITS FALSE NEIGHBOUR. Refute it at one input. -/
def FnPointCodeStringReadsBackToldWrongFalsely : Prop := Claim7.holds Tryf.pinned (.plain (OpenSpec.ofChange fnPointCodeStringReadsBackWrong)) fnPointCodeStringReadsBackCard

/-- THE TOLD CARD OF 'zzlaws_root_b1.FnPointCodeStringMemberIsTheTail'. -/
def fnPointCodeStringMemberIsTheTailCard : Claim7 := { stood := { row := fnPointCodeStringMemberIsTheTailRow, standIns := [], harness := (true, "d436047251cecc4ced1ef5150a8d0d2d661cdc55018b8c5f51a105699923e166"), looks := false }, told := true, goes := false }
def FnPointCodeStringMemberIsTheTailToldSaid : Prop := Claim7.holds Tryf.pinned (.plain (OpenSpec.ofChange fnPointCodeStringMemberIsTheTailSpec)) fnPointCodeStringMemberIsTheTailCard
/-- ITS FALSE NEIGHBOUR. Refute it at one input. -/
def FnPointCodeStringMemberIsTheTailToldWrongFalsely : Prop := Claim7.holds Tryf.pinned (.plain (OpenSpec.ofChange fnPointCodeStringMemberIsTheTailWrong)) fnPointCodeStringMemberIsTheTailCard

/-- THE TOLD CARD OF 'zzlaws_root_b1.FnNameQueryEncodeHeaderApartFromDigits'. -/
def fnNameQueryEncodeHeaderApartFromDigitsCard : Claim7 := { stood := { row := fnNameQueryEncodeHeaderApartFromDigitsRow, standIns := [], harness := (true, "d436047251cecc4ced1ef5150a8d0d2d661cdc55018b8c5f51a105699923e166"), looks := false }, told := true, goes := false }
def FnNameQueryEncodeHeaderApartFromDigitsToldSaid : Prop := Claim7.holds Tryf.pinned (.plain (OpenSpec.ofChange fnNameQueryEncodeHeaderApartFromDigitsSpec)) fnNameQueryEncodeHeaderApartFromDigitsCard
/-- ITS FALSE NEIGHBOUR. Refute it at one input. -/
def FnNameQueryEncodeHeaderApartFromDigitsToldWrongFalsely : Prop := Claim7.holds Tryf.pinned (.plain (OpenSpec.ofChange fnNameQueryEncodeHeaderApartFromDigitsWrong)) fnNameQueryEncodeHeaderApartFromDigitsCard

/-- THE TOLD CARD OF 'zzlaws_root_b1.FnNameQueryEncodeOneDigitMore'. -/
def fnNameQueryEncodeOneDigitMoreCard : Claim7 := { stood := { row := fnNameQueryEncodeOneDigitMoreRow, standIns := [], harness := (true, "d436047251cecc4ced1ef5150a8d0d2d661cdc55018b8c5f51a105699923e166"), looks := false }, told := true, goes := false }
def FnNameQueryEncodeOneDigitMoreToldSaid : Prop := Claim7.holds Tryf.pinned (.plain (OpenSpec.ofChange fnNameQueryEncodeOneDigitMoreSpec)) fnNameQueryEncodeOneDigitMoreCard
/-- ITS FALSE NEIGHBOUR. Refute it at one input. -/
def FnNameQueryEncodeOneDigitMoreToldWrongFalsely : Prop := Claim7.holds Tryf.pinned (.plain (OpenSpec.ofChange fnNameQueryEncodeOneDigitMoreWrong)) fnNameQueryEncodeOneDigitMoreCard
end Rows
end Go.Proofs.Qxb6619061aFmt
