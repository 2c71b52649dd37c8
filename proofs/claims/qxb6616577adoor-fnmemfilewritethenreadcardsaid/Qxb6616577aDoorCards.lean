/-
  DERIVED. GIVEN WITH THE SEED: THE CARDS: each row of Qxb6616577aDoorRows.lean that lists a variable, with what it lists TIED to the program's text (the seventh form; the later family's looks); each row that meets fmt, with fmt's text TOLD by the authors' own Lean function (tested against real Go, not proved from fmt's source: count such statements apart). THE CARD IS WHAT COUNTS. Prove the row's statement (the work); the ties are given (Qxb6616577aDoorTie.lean); close each card by the builder's one call (the guide's Derived/Test/ToyasCard.lean, 'card_holds'). Laid BY PROGRAM, IN A SANDBOX (cutbox-door.mjs). By AI agents, Wed Nov 11 2026. No macro, syntax, notation, axiom, sorry.
-/
import Derived.Test.Qxb6616577aDoorRows
import GoSem.ClaimSeven
namespace Go.Proofs.Qxb6616577aDoor
namespace Rows

/-- THE TIED CARD OF 'zzlaws_root_b1.FnPositionMarshalTextRoundTrip'. -/
def fnPositionMarshalTextRoundTripCard : Claim7 := { stood := { row := fnPositionMarshalTextRoundTripRow, standIns := [], harness := (true, "c6bf92cd523cfadefb4cb4f41f03973a94e1ffb07d18a45c8c1033410bd96211"), looks := false }, kinds := [], alts := [], laidByText := true, laidKinds := [.data, .data, .data], laidTests := true, laidLooks := .later }
def FnPositionMarshalTextRoundTripCardSaid : Prop := Claim7.holds Tryd.pinned (.plain (OpenSpec.ofChange fnPositionMarshalTextRoundTripSpec)) fnPositionMarshalTextRoundTripCard

/-- THE TIED CARD OF 'zzlaws_root_b1.FnMemFileReadAtSplit'. -/
def fnMemFileReadAtSplitCard : Claim7 := { stood := { row := fnMemFileReadAtSplitRow, standIns := [], harness := (true, "c6bf92cd523cfadefb4cb4f41f03973a94e1ffb07d18a45c8c1033410bd96211"), looks := false }, kinds := [], alts := [], laidByText := true, laidKinds := [.sentinel, .called, .called, .wider], laidTests := true, laidLooks := .later }
def FnMemFileReadAtSplitCardSaid : Prop := Claim7.holds Tryd.pinned (.plain (OpenSpec.ofChange fnMemFileReadAtSplitSpec)) fnMemFileReadAtSplitCard

/-- THE TIED CARD OF 'zzlaws_root_b1.FnMemFileWriteThenRead'. -/
def fnMemFileWriteThenReadCard : Claim7 := { stood := { row := fnMemFileWriteThenReadRow, standIns := [], harness := (true, "c6bf92cd523cfadefb4cb4f41f03973a94e1ffb07d18a45c8c1033410bd96211"), looks := false }, kinds := [], alts := [], laidByText := true, laidKinds := [.sentinel, .called, .called, .wider], laidTests := true, laidLooks := .later }
def FnMemFileWriteThenReadCardSaid : Prop := Claim7.holds Tryd.pinned (.plain (OpenSpec.ofChange fnMemFileWriteThenReadSpec)) fnMemFileWriteThenReadCard
end Rows
end Go.Proofs.Qxb6616577aDoor
