/-
  No cell of these rows narrows 'for every input' (looked for: loops, veiled, ifaces, maps, wideKeys, modest, calm, conditions, laid).
  DERIVED. THE GIVEN ROWS OF THIS SEAT. 6 by the template 'for every input the law returns true; each argument reads behind the call as it read before'; 0 by the template 'total and deterministic' (their statements: Qxb6619061aFmtTotals.lean).
  GIVEN WITH THE SEED: the statements are not yours to turn. If you find one false, say at which input.
  Laid BY PROGRAM, IN A SANDBOX (cutbox-rows.mjs): the forced cells as the released guide's own fill.sh prints them over the translation b9b5b399c644cbcf… (all of the seat's roots in one cut). By AI agents, Wed Nov 11 2026. No macro, syntax, notation, axiom, sorry.
-/
import Derived.Test.Qxb6619061aFmtChecked
import GoSem.Claim
import GoSem.ClaimJoined
import GoSem.ClaimMapViews
import Derived.JoinedTies
import Derived.KernelRfl
namespace Go.Proofs.Qxb6619061aFmt
/- THE CELL 'sum', in the pinned program and in every row, IS THE sha256 OF THE DUMP (.gsa) THAT Qxb6619061aFmtProg.lean LOADS. Nothing in Lean hashes anything: it is a label: what it is worth is what the hold of that sum in a sandbox is worth. -/
noncomputable def Tryf.pinned : Pinned := { name := "qxb6619061afmt", sum := "b9b5b399c644cbcf302b0afed6f00e069d3295aa5631067da2594337c6a32c67", checked := Tryf.checked }
namespace Rows
def none {H : Type} : Left H := { results := [], args := [] }

/-- 'zzlaws_root_b1.FnDSS1FacilityAgainstUnavailable': WHATEVER THE INPUT: true; the input reads as it did. -/
def fnDSS1FacilityAgainstUnavailableSpec : ChangeSpec := { name := "fnDSS1FacilityAgainstUnavailable", fn := fun _ => fun
  | [d1, d2, d3] => { results := [.lit (.bool true)], args := [d1, d2, d3] }
  | _ => none }
def fnDSS1FacilityAgainstUnavailableRow : OpenClaim := { program := "qxb6619061afmt", sum := "b9b5b399c644cbcf302b0afed6f00e069d3295aa5631067da2594337c6a32c67", func := "example.com/nameline/nameline/zzlaws_root_b1.FnDSS1FacilityAgainstUnavailable", spec := "fnDSS1FacilityAgainstUnavailable", stops := ["fmt.Sprintf", "fmt.errorf"], inPlace := ["fmt.errorf"], apart := false }
/-- NO THEOREM (fmt's text is open here; it may be false): for the released tool's asking of the row's closed facts alone. THE STATEMENT IS 'FnDSS1FacilityAgainstUnavailableToldSaid' (Qxb6619061aFmtCards.lean). -/
def FnDSS1FacilityAgainstUnavailableFormAsk : Prop := fnDSS1FacilityAgainstUnavailableRow.holds Tryf.pinned (OpenSpec.ofChange fnDSS1FacilityAgainstUnavailableSpec)

/-- ITS FALSE NEIGHBOUR: 'it returns false'. Refute it at one input. -/
def fnDSS1FacilityAgainstUnavailableWrong : ChangeSpec := { name := "fnDSS1FacilityAgainstUnavailable", fn := fun _ => fun
  | [d1, d2, d3] => { results := [.lit (.bool false)], args := [d1, d2, d3] }
  | _ => none }
def FnDSS1FacilityAgainstUnavailableWrongFormAsk : Prop := fnDSS1FacilityAgainstUnavailableRow.holds Tryf.pinned (OpenSpec.ofChange fnDSS1FacilityAgainstUnavailableWrong)

/-- 'zzlaws_root_b1.FnDSS1FacilityTellsNamesApart': WHATEVER THE INPUT: true; the input reads as it did. -/
def fnDSS1FacilityTellsNamesApartSpec : ChangeSpec := { name := "fnDSS1FacilityTellsNamesApart", fn := fun _ => fun
  | [d1, d2, d3, d4, d5] => { results := [.lit (.bool true)], args := [d1, d2, d3, d4, d5] }
  | _ => none }
def fnDSS1FacilityTellsNamesApartRow : OpenClaim := { program := "qxb6619061afmt", sum := "b9b5b399c644cbcf302b0afed6f00e069d3295aa5631067da2594337c6a32c67", func := "example.com/nameline/nameline/zzlaws_root_b1.FnDSS1FacilityTellsNamesApart", spec := "fnDSS1FacilityTellsNamesApart", stops := ["fmt.Sprintf", "fmt.errorf"], inPlace := ["fmt.errorf"], apart := false }
/-- NO THEOREM (fmt's text is open here; it may be false): for the released tool's asking of the row's closed facts alone. THE STATEMENT IS 'FnDSS1FacilityTellsNamesApartToldSaid' (Qxb6619061aFmtCards.lean). -/
def FnDSS1FacilityTellsNamesApartFormAsk : Prop := fnDSS1FacilityTellsNamesApartRow.holds Tryf.pinned (OpenSpec.ofChange fnDSS1FacilityTellsNamesApartSpec)

/-- ITS FALSE NEIGHBOUR: 'it returns false'. Refute it at one input. -/
def fnDSS1FacilityTellsNamesApartWrong : ChangeSpec := { name := "fnDSS1FacilityTellsNamesApart", fn := fun _ => fun
  | [d1, d2, d3, d4, d5] => { results := [.lit (.bool false)], args := [d1, d2, d3, d4, d5] }
  | _ => none }
def FnDSS1FacilityTellsNamesApartWrongFormAsk : Prop := fnDSS1FacilityTellsNamesApartRow.holds Tryf.pinned (OpenSpec.ofChange fnDSS1FacilityTellsNamesApartWrong)

/-- 'zzlaws_root_b1.FnPointCodeStringReadsBack': WHATEVER THE INPUT: true; the input reads as it did. -/
def fnPointCodeStringReadsBackSpec : ChangeSpec := { name := "fnPointCodeStringReadsBack", fn := fun _ => fun
  | [d1, d2, d3, d4, d5, d6] => { results := [.lit (.bool true)], args := [d1, d2, d3, d4, d5, d6] }
  | _ => none }
def fnPointCodeStringReadsBackRow : OpenClaim := { program := "qxb6619061afmt", sum := "b9b5b399c644cbcf302b0afed6f00e069d3295aa5631067da2594337c6a32c67", func := "example.com/nameline/nameline/zzlaws_root_b1.FnPointCodeStringReadsBack", spec := "fnPointCodeStringReadsBack", stops := ["fmt.Sprintf", "fmt.errorf"], inPlace := ["fmt.Sprintf"], apart := false }
/-- NO THEOREM (fmt's text is open here; it may be false): for the released tool's asking of the row's closed facts alone. THE STATEMENT IS 'FnPointCodeStringReadsBackToldSaid' (Qxb6619061aFmtCards.lean). -/
def FnPointCodeStringReadsBackFormAsk : Prop := fnPointCodeStringReadsBackRow.holds Tryf.pinned (OpenSpec.ofChange fnPointCodeStringReadsBackSpec)

/-- ITS FALSE NEIGHBOUR: 'it returns false'. Refute it at one input. -/
def fnPointCodeStringReadsBackWrong : ChangeSpec := { name := "fnPointCodeStringReadsBack", fn := fun _ => fun
  | [d1, d2, d3, d4, d5, d6] => { results := [.lit (.bool false)], args := [d1, d2, d3, d4, d5, d6] }
  | _ => none }
def FnPointCodeStringReadsBackWrongFormAsk : Prop := fnPointCodeStringReadsBackRow.holds Tryf.pinned (OpenSpec.ofChange fnPointCodeStringReadsBackWrong)

/-- 'zzlaws_root_b1.FnPointCodeStringMemberIsTheTail': WHATEVER THE INPUT: true; the input reads as it did. -/
def fnPointCodeStringMemberIsTheTailSpec : ChangeSpec := { name := "fnPointCodeStringMemberIsTheTail", fn := fun _ => fun
  | [d1, d2, d3, d4] => { results := [.lit (.bool true)], args := [d1, d2, d3, d4] }
  | _ => none }
def fnPointCodeStringMemberIsTheTailRow : OpenClaim := { program := "qxb6619061afmt", sum := "b9b5b399c644cbcf302b0afed6f00e069d3295aa5631067da2594337c6a32c67", func := "example.com/nameline/nameline/zzlaws_root_b1.FnPointCodeStringMemberIsTheTail", spec := "fnPointCodeStringMemberIsTheTail", stops := ["fmt.Sprintf", "fmt.errorf"], inPlace := ["fmt.Sprintf"], apart := false }
/-- NO THEOREM (fmt's text is open here; it may be false): for the released tool's asking of the row's closed facts alone. THE STATEMENT IS 'FnPointCodeStringMemberIsTheTailToldSaid' (Qxb6619061aFmtCards.lean). -/
def FnPointCodeStringMemberIsTheTailFormAsk : Prop := fnPointCodeStringMemberIsTheTailRow.holds Tryf.pinned (OpenSpec.ofChange fnPointCodeStringMemberIsTheTailSpec)

/-- ITS FALSE NEIGHBOUR: 'it returns false'. Refute it at one input. -/
def fnPointCodeStringMemberIsTheTailWrong : ChangeSpec := { name := "fnPointCodeStringMemberIsTheTail", fn := fun _ => fun
  | [d1, d2, d3, d4] => { results := [.lit (.bool false)], args := [d1, d2, d3, d4] }
  | _ => none }
def FnPointCodeStringMemberIsTheTailWrongFormAsk : Prop := fnPointCodeStringMemberIsTheTailRow.holds Tryf.pinned (OpenSpec.ofChange fnPointCodeStringMemberIsTheTailWrong)

/-- 'zzlaws_root_b1.FnNameQueryEncodeHeaderApartFromDigits': WHATEVER THE INPUT: true; the input reads as it did. -/
def fnNameQueryEncodeHeaderApartFromDigitsSpec : ChangeSpec := { name := "fnNameQueryEncodeHeaderApartFromDigits", fn := fun _ => fun
  | [d1, d2, d3, d4, d5, d6, d7, d8, d9, d10, d11] => { results := [.lit (.bool true)], args := [d1, d2, d3, d4, d5, d6, d7, d8, d9, d10, d11] }
  | _ => none }
def fnNameQueryEncodeHeaderApartFromDigitsRow : OpenClaim := { program := "qxb6619061afmt", sum := "b9b5b399c644cbcf302b0afed6f00e069d3295aa5631067da2594337c6a32c67", func := "example.com/nameline/nameline/zzlaws_root_b1.FnNameQueryEncodeHeaderApartFromDigits", spec := "fnNameQueryEncodeHeaderApartFromDigits", stops := ["fmt.Sprintf", "fmt.errorf"], inPlace := ["fmt.errorf"], apart := false }
/-- NO THEOREM (fmt's text is open here; it may be false): for the released tool's asking of the row's closed facts alone. THE STATEMENT IS 'FnNameQueryEncodeHeaderApartFromDigitsToldSaid' (Qxb6619061aFmtCards.lean). -/
def FnNameQueryEncodeHeaderApartFromDigitsFormAsk : Prop := fnNameQueryEncodeHeaderApartFromDigitsRow.holds Tryf.pinned (OpenSpec.ofChange fnNameQueryEncodeHeaderApartFromDigitsSpec)

/-- ITS FALSE NEIGHBOUR: 'it returns false'. Refute it at one input. -/
def fnNameQueryEncodeHeaderApartFromDigitsWrong : ChangeSpec := { name := "fnNameQueryEncodeHeaderApartFromDigits", fn := fun _ => fun
  | [d1, d2, d3, d4, d5, d6, d7, d8, d9, d10, d11] => { results := [.lit (.bool false)], args := [d1, d2, d3, d4, d5, d6, d7, d8, d9, d10, d11] }
  | _ => none }
def FnNameQueryEncodeHeaderApartFromDigitsWrongFormAsk : Prop := fnNameQueryEncodeHeaderApartFromDigitsRow.holds Tryf.pinned (OpenSpec.ofChange fnNameQueryEncodeHeaderApartFromDigitsWrong)

/-- 'zzlaws_root_b1.FnNameQueryEncodeOneDigitMore': WHATEVER THE INPUT: true; the input reads as it did. -/
def fnNameQueryEncodeOneDigitMoreSpec : ChangeSpec := { name := "fnNameQueryEncodeOneDigitMore", fn := fun _ => fun
  | [d1, d2, d3, d4, d5, d6, d7, d8, d9] => { results := [.lit (.bool true)], args := [d1, d2, d3, d4, d5, d6, d7, d8, d9] }
  | _ => none }
def fnNameQueryEncodeOneDigitMoreRow : OpenClaim := { program := "qxb6619061afmt", sum := "b9b5b399c644cbcf302b0afed6f00e069d3295aa5631067da2594337c6a32c67", func := "example.com/nameline/nameline/zzlaws_root_b1.FnNameQueryEncodeOneDigitMore", spec := "fnNameQueryEncodeOneDigitMore", stops := ["fmt.Sprintf", "fmt.errorf"], inPlace := ["fmt.errorf"], apart := false }
/-- NO THEOREM (fmt's text is open here; it may be false): for the released tool's asking of the row's closed facts alone. THE STATEMENT IS 'FnNameQueryEncodeOneDigitMoreToldSaid' (Qxb6619061aFmtCards.lean). -/
def FnNameQueryEncodeOneDigitMoreFormAsk : Prop := fnNameQueryEncodeOneDigitMoreRow.holds Tryf.pinned (OpenSpec.ofChange fnNameQueryEncodeOneDigitMoreSpec)

/-- ITS FALSE NEIGHBOUR: 'it returns false'. Refute it at one input. -/
def fnNameQueryEncodeOneDigitMoreWrong : ChangeSpec := { name := "fnNameQueryEncodeOneDigitMore", fn := fun _ => fun
  | [d1, d2, d3, d4, d5, d6, d7, d8, d9] => { results := [.lit (.bool false)], args := [d1, d2, d3, d4, d5, d6, d7, d8, d9] }
  | _ => none }
def FnNameQueryEncodeOneDigitMoreWrongFormAsk : Prop := fnNameQueryEncodeOneDigitMoreRow.holds Tryf.pinned (OpenSpec.ofChange fnNameQueryEncodeOneDigitMoreWrong)

end Rows
end Go.Proofs.Qxb6619061aFmt
