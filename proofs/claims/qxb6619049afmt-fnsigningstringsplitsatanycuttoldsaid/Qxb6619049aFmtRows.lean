/-
  NARROWER THAN 'FOR EVERY INPUT', by the rows' own cells (each row's printed sentence says how): FnSigningStringSplitsAtAnyCut: maps · FnSigningStringRefusesExactlyWhereANameHasNoValue: maps.
  DERIVED. THE GIVEN ROWS OF THIS SEAT. 2 by the template 'for every input the law returns true; each argument reads behind the call as it read before'; 0 by the template 'total and deterministic' (their statements: Qxb6619049aFmtTotals.lean).
  GIVEN WITH THE SEED: the statements are not yours to turn. If you find one false, say at which input.
  Laid BY PROGRAM, IN A SANDBOX (cutbox-rows.mjs): the forced cells as the released guide's own fill.sh prints them over the translation 82fb7007bc2feeb7… (all of the seat's roots in one cut). By AI agents, Wed Nov 11 2026. No macro, syntax, notation, axiom, sorry.
-/
import Derived.Test.Qxb6619049aFmtChecked
import GoSem.Claim
import GoSem.ClaimJoined
import GoSem.ClaimMapViews
import Derived.JoinedTies
import Derived.KernelRfl
namespace Go.Proofs.Qxb6619049aFmt
/- THE CELL 'sum', in the pinned program and in every row, IS THE sha256 OF THE DUMP (.gsa) THAT Qxb6619049aFmtProg.lean LOADS. Nothing in Lean hashes anything: it is a label: what it is worth is what the hold of that sum in a sandbox is worth. -/
noncomputable def Tryf.pinned : Pinned := { name := "qxb6619049afmt", sum := "82fb7007bc2feeb71387c3a659a94bfcaee5f5a8f1536ab85495e36d1c34bedf", checked := Tryf.checked }
namespace Rows
def none {H : Type} : Left H := { results := [], args := [] }

/-- 'zzlaws_pkg_oracle_b1.FnSigningStringSplitsAtAnyCut': WHATEVER THE INPUT: true; the input reads as it did. -/
def fnSigningStringSplitsAtAnyCutSpec : ChangeSpec := { name := "fnSigningStringSplitsAtAnyCut", fn := fun _ => fun
  | [d1, d2, d3] => { results := [.lit (.bool true)], args := [d1, d2, d3] }
  | _ => none }
def fnSigningStringSplitsAtAnyCutRow : OpenClaim := { program := "qxb6619049afmt", sum := "82fb7007bc2feeb71387c3a659a94bfcaee5f5a8f1536ab85495e36d1c34bedf", func := "example.com/tenjo/tenjo/zzlaws_pkg_oracle_b1.FnSigningStringSplitsAtAnyCut", spec := "fnSigningStringSplitsAtAnyCut", stops := ["fmt.errorf"], inPlace := ["fmt.errorf", "internal/abi.NoEscape", "internal/bytealg.MakeNoZero"], unfollowed := true, recurses := true, maps := true, apart := false }
/-- NO THEOREM (fmt's text is open here; it may be false): for the released tool's asking of the row's closed facts alone. THE STATEMENT IS 'FnSigningStringSplitsAtAnyCutToldSaid' (Qxb6619049aFmtCards.lean). -/
def FnSigningStringSplitsAtAnyCutFormAsk : Prop := fnSigningStringSplitsAtAnyCutRow.holds Tryf.pinned (OpenSpec.ofChange fnSigningStringSplitsAtAnyCutSpec)

/-- ITS FALSE NEIGHBOUR: 'it returns false'. Refute it at one input. -/
def fnSigningStringSplitsAtAnyCutWrong : ChangeSpec := { name := "fnSigningStringSplitsAtAnyCut", fn := fun _ => fun
  | [d1, d2, d3] => { results := [.lit (.bool false)], args := [d1, d2, d3] }
  | _ => none }
def FnSigningStringSplitsAtAnyCutWrongFormAsk : Prop := fnSigningStringSplitsAtAnyCutRow.holds Tryf.pinned (OpenSpec.ofChange fnSigningStringSplitsAtAnyCutWrong)

/-- 'zzlaws_pkg_oracle_b1.FnSigningStringRefusesExactlyWhereANameHasNoValue': WHATEVER THE INPUT: true; the input reads as it did. -/
def fnSigningStringRefusesExactlyWhereANameHasNoValueSpec : ChangeSpec := { name := "fnSigningStringRefusesExactlyWhereANameHasNoValue", fn := fun _ => fun
  | [d1, d2] => { results := [.lit (.bool true)], args := [d1, d2] }
  | _ => none }
def fnSigningStringRefusesExactlyWhereANameHasNoValueRow : OpenClaim := { program := "qxb6619049afmt", sum := "82fb7007bc2feeb71387c3a659a94bfcaee5f5a8f1536ab85495e36d1c34bedf", func := "example.com/tenjo/tenjo/zzlaws_pkg_oracle_b1.FnSigningStringRefusesExactlyWhereANameHasNoValue", spec := "fnSigningStringRefusesExactlyWhereANameHasNoValue", stops := ["fmt.errorf"], inPlace := ["fmt.errorf", "internal/abi.NoEscape", "internal/bytealg.MakeNoZero"], unfollowed := true, recurses := true, maps := true, apart := false }
/-- NO THEOREM (fmt's text is open here; it may be false): for the released tool's asking of the row's closed facts alone. THE STATEMENT IS 'FnSigningStringRefusesExactlyWhereANameHasNoValueToldSaid' (Qxb6619049aFmtCards.lean). -/
def FnSigningStringRefusesExactlyWhereANameHasNoValueFormAsk : Prop := fnSigningStringRefusesExactlyWhereANameHasNoValueRow.holds Tryf.pinned (OpenSpec.ofChange fnSigningStringRefusesExactlyWhereANameHasNoValueSpec)

/-- ITS FALSE NEIGHBOUR: 'it returns false'. Refute it at one input. -/
def fnSigningStringRefusesExactlyWhereANameHasNoValueWrong : ChangeSpec := { name := "fnSigningStringRefusesExactlyWhereANameHasNoValue", fn := fun _ => fun
  | [d1, d2] => { results := [.lit (.bool false)], args := [d1, d2] }
  | _ => none }
def FnSigningStringRefusesExactlyWhereANameHasNoValueWrongFormAsk : Prop := fnSigningStringRefusesExactlyWhereANameHasNoValueRow.holds Tryf.pinned (OpenSpec.ofChange fnSigningStringRefusesExactlyWhereANameHasNoValueWrong)

end Rows
end Go.Proofs.Qxb6619049aFmt
