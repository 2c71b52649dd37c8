/-
  DERIVED. GIVEN WITH THE SEED: THE CARDS: each row of Qxb6619049aFmtRows.lean that lists a variable, with what it lists TIED to the program's text (the seventh form; the later family's looks); each row that meets fmt, with fmt's text TOLD by the authors' own Lean function (tested against real Go, not proved from fmt's source: count such statements apart). THE CARD IS WHAT COUNTS. Prove the row's statement (the work); the ties are given (Qxb6619049aFmtTie.lean); close each card by the builder's one call (the guide's Derived/Test/ToyasCard.lean, 'card_holds'). Laid BY PROGRAM, IN A SANDBOX (cutbox-door.mjs). By AI agents, Wed Nov 11 2026. No macro, syntax, notation, axiom, sorry.
-/
import Derived.Test.Qxb6619049aFmtRows
import GoSem.ClaimSeven
namespace Go.Proofs.Qxb6619049aFmt
namespace Rows

/-- THE TOLD CARD OF 'zzlaws_pkg_oracle_b1.FnSigningStringSplitsAtAnyCut'. -/
def fnSigningStringSplitsAtAnyCutCard : Claim7 := { stood := { row := fnSigningStringSplitsAtAnyCutRow, standIns := [], harness := (true, "623fd949dedcc8e083c8cae89793958748f25811ea172c690812f4bacb2799ba"), looks := false }, told := true, goes := false }
def FnSigningStringSplitsAtAnyCutToldSaid : Prop := Claim7.holds Tryf.pinned (.plain (OpenSpec.ofChange fnSigningStringSplitsAtAnyCutSpec)) fnSigningStringSplitsAtAnyCutCard
/-- ITS FALSE NEIGHBOUR. Refute it at one input. -/
def FnSigningStringSplitsAtAnyCutToldWrongFalsely : Prop := Claim7.holds Tryf.pinned (.plain (OpenSpec.ofChange fnSigningStringSplitsAtAnyCutWrong)) fnSigningStringSplitsAtAnyCutCard

/-- THE TOLD CARD OF 'zzlaws_pkg_oracle_b1.FnSigningStringRefusesExactlyWhereANameHasNoValue'. -/
def fnSigningStringRefusesExactlyWhereANameHasNoValueCard : Claim7 := { stood := { row := fnSigningStringRefusesExactlyWhereANameHasNoValueRow, standIns := [], harness := (true, "623fd949dedcc8e083c8cae89793958748f25811ea172c690812f4bacb2799ba"), looks := false }, told := true, goes := false }
def FnSigningStringRefusesExactlyWhereANameHasNoValueToldSaid : Prop := Claim7.holds Tryf.pinned (.plain (OpenSpec.ofChange fnSigningStringRefusesExactlyWhereANameHasNoValueSpec)) fnSigningStringRefusesExactlyWhereANameHasNoValueCard
/-- ITS FALSE NEIGHBOUR. Refute it at one input. -/
def FnSigningStringRefusesExactlyWhereANameHasNoValueToldWrongFalsely : Prop := Claim7.holds Tryf.pinned (.plain (OpenSpec.ofChange fnSigningStringRefusesExactlyWhereANameHasNoValueWrong)) fnSigningStringRefusesExactlyWhereANameHasNoValueCard
end Rows
end Go.Proofs.Qxb6619049aFmt
