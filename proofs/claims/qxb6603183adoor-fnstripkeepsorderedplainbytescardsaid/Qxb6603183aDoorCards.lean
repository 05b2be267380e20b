/-
  DERIVED. GIVEN WITH THE SEED: THE CARDS: each row of Qxb6603183aDoorRows.lean that lists a variable, with what it lists TIED to the program's text (the seventh form; the later family's looks); each row that meets fmt, with fmt's text TOLD by the authors' own Lean function (tested against real Go, not proved from fmt's source: count such statements apart). THE CARD IS WHAT COUNTS. Prove the row's statement (the work); the ties are given (Qxb6603183aDoorTie.lean); close each card by the builder's one call (the guide's Derived/Test/ToyasCard.lean, 'card_holds'). Laid BY PROGRAM, IN A SANDBOX (cutbox-door.mjs). By AI agents, Wed Nov 11 2026. No macro, syntax, notation, axiom, sorry.
-/
import Derived.Test.Qxb6603183aDoorRows
import GoSem.ClaimSeven
namespace Go.Proofs.Qxb6603183aDoor
namespace Rows

/-- THE TIED CARD OF 'zzlaws_internal_term_b1.FnSequenceEndLooksOnlyAhead'. -/
def fnSequenceEndLooksOnlyAheadCard : Claim7 := { stood := { row := fnSequenceEndLooksOnlyAheadRow, standIns := [], harness := (true, "7091d96b33ce7a3f747cefc3913da8576d33467308cbcbbc54041de32d1fa4c9"), looks := false }, kinds := [], alts := [], laidByText := true, laidKinds := [.data, .data, .data, .pinned, .pinned], laidTests := true, laidLooks := .later }
def FnSequenceEndLooksOnlyAheadCardSaid : Prop := Claim7.holds Tryd.pinned (.plain (OpenSpec.ofChange fnSequenceEndLooksOnlyAheadSpec)) fnSequenceEndLooksOnlyAheadCard

/-- THE TIED CARD OF 'zzlaws_internal_term_b1.FnSequenceEndTakesWholeControlSequence'. -/
def fnSequenceEndTakesWholeControlSequenceCard : Claim7 := { stood := { row := fnSequenceEndTakesWholeControlSequenceRow, standIns := [], harness := (true, "7091d96b33ce7a3f747cefc3913da8576d33467308cbcbbc54041de32d1fa4c9"), looks := false }, kinds := [], alts := [], laidByText := true, laidKinds := [.data, .data, .data, .pinned, .pinned], laidTests := true, laidLooks := .later }
def FnSequenceEndTakesWholeControlSequenceCardSaid : Prop := Claim7.holds Tryd.pinned (.plain (OpenSpec.ofChange fnSequenceEndTakesWholeControlSequenceSpec)) fnSequenceEndTakesWholeControlSequenceCard

/-- THE TIED CARD OF 'zzlaws_internal_term_b1.FnStringEndStopsAtFirstTerminator'. -/
def fnStringEndStopsAtFirstTerminatorCard : Claim7 := { stood := { row := fnStringEndStopsAtFirstTerminatorRow, standIns := [], harness := (true, "7091d96b33ce7a3f747cefc3913da8576d33467308cbcbbc54041de32d1fa4c9"), looks := false }, kinds := [], alts := [], laidByText := true, laidKinds := [.data, .data, .data, .pinned, .pinned], laidTests := true, laidLooks := .later }
def FnStringEndStopsAtFirstTerminatorCardSaid : Prop := Claim7.holds Tryd.pinned (.plain (OpenSpec.ofChange fnStringEndStopsAtFirstTerminatorSpec)) fnStringEndStopsAtFirstTerminatorCard

/-- THE TIED CARD OF 'zzlaws_internal_term_b1.FnStringEndLooksOnlyAhead'. -/
def fnStringEndLooksOnlyAheadCard : Claim7 := { stood := { row := fnStringEndLooksOnlyAheadRow, standIns := [], harness := (true, "7091d96b33ce7a3f747cefc3913da8576d33467308cbcbbc54041de32d1fa4c9"), looks := false }, kinds := [], alts := [], laidByText := true, laidKinds := [.data, .data, .data, .pinned, .pinned], laidTests := true, laidLooks := .later }
def FnStringEndLooksOnlyAheadCardSaid : Prop := Claim7.holds Tryd.pinned (.plain (OpenSpec.ofChange fnStringEndLooksOnlyAheadSpec)) fnStringEndLooksOnlyAheadCard

/-- THE TIED CARD OF 'zzlaws_internal_term_b1.FnStripKeepsOrderedPlainBytes'. -/
def fnStripKeepsOrderedPlainBytesCard : Claim7 := { stood := { row := fnStripKeepsOrderedPlainBytesRow, standIns := [], harness := (true, "7091d96b33ce7a3f747cefc3913da8576d33467308cbcbbc54041de32d1fa4c9"), looks := false }, kinds := [], alts := [], laidByText := true, laidKinds := [.data, .data, .data, .pinned, .pinned], laidTests := true, laidLooks := .later }
def FnStripKeepsOrderedPlainBytesCardSaid : Prop := Claim7.holds Tryd.pinned (.plain (OpenSpec.ofChange fnStripKeepsOrderedPlainBytesSpec)) fnStripKeepsOrderedPlainBytesCard

/-- THE TIED CARD OF 'zzlaws_internal_term_b1.FnStripPassesPlainPrefix'. -/
def fnStripPassesPlainPrefixCard : Claim7 := { stood := { row := fnStripPassesPlainPrefixRow, standIns := [], harness := (true, "7091d96b33ce7a3f747cefc3913da8576d33467308cbcbbc54041de32d1fa4c9"), looks := false }, kinds := [], alts := [], laidByText := true, laidKinds := [.data, .data, .data, .pinned, .pinned], laidTests := true, laidLooks := .later }
def FnStripPassesPlainPrefixCardSaid : Prop := Claim7.holds Tryd.pinned (.plain (OpenSpec.ofChange fnStripPassesPlainPrefixSpec)) fnStripPassesPlainPrefixCard
end Rows
end Go.Proofs.Qxb6603183aDoor
