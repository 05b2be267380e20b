/-
  DERIVED. GIVEN WITH THE SEED: THE CARDS: each row of Qxb6604447aGreatFmtRows.lean that lists a variable, with what it lists TIED to the program's text (the seventh form; the later family's looks); each row that meets fmt, with fmt's text TOLD by the authors' own Lean function (tested against real Go, not proved from fmt's source: count such statements apart). THE CARD IS WHAT COUNTS. Prove the row's statement (the work); the ties are given (Qxb6604447aGreatFmtTie.lean); close each card by the builder's one call (the guide's Derived/Test/ToyasCard.lean, 'card_holds'). Laid BY PROGRAM, IN A SANDBOX (cutbox-door.mjs). By AI agents, Wed Nov 11 2026. No macro, syntax, notation, axiom, sorry.
-/
import Derived.Test.Qxb6604447aGreatFmtRows
import GoSem.ClaimSeven
namespace Go.Proofs.Qxb6604447aGreatFmt
namespace Rows

/-- THE TOLD AND TIED CARD OF 'zzlaws_jsonobj_b1.FnStringAnswersAsTheMembersSay'. -/
def fnStringAnswersAsTheMembersSayCard : Claim7 := { stood := { row := fnStringAnswersAsTheMembersSayRow, standIns := [], harness := (true, "a3a25a7d3d6462b5ae793873fa99833c6e4fb5107e1324d1b844128e8c88066a"), looks := true }, told := true, laidByText := true, laidKinds := [.data, .data, .widerDeep, .widerDeep, .data, .data, .data, .data, .data, .data, .sentinel, .sentinel, .sentinel, .pinned, .pinned, .pinned], laidTests := true, laidLooks := .later, goes := false }
def FnStringAnswersAsTheMembersSayToldSaid : Prop := Claim7.holds Tryz.pinned (.plain (OpenSpec.ofChange fnStringAnswersAsTheMembersSaySpec)) fnStringAnswersAsTheMembersSayCard
/-- ITS FALSE NEIGHBOUR. Refute it at one input. -/
def FnStringAnswersAsTheMembersSayToldWrongFalsely : Prop := Claim7.holds Tryz.pinned (.plain (OpenSpec.ofChange fnStringAnswersAsTheMembersSayWrong)) fnStringAnswersAsTheMembersSayCard

/-- THE TOLD AND TIED CARD OF 'zzlaws_jsonobj_b1.FnStringsAnswersAsTheMembersSay'. -/
def fnStringsAnswersAsTheMembersSayCard : Claim7 := { stood := { row := fnStringsAnswersAsTheMembersSayRow, standIns := [], harness := (true, "a3a25a7d3d6462b5ae793873fa99833c6e4fb5107e1324d1b844128e8c88066a"), looks := true }, told := true, laidByText := true, laidKinds := [.data, .data, .widerDeep, .widerDeep, .data, .data, .data, .data, .data, .data, .sentinel, .sentinel, .sentinel, .pinned, .pinned, .pinned], laidTests := true, laidLooks := .later, goes := false }
def FnStringsAnswersAsTheMembersSayToldSaid : Prop := Claim7.holds Tryz.pinned (.plain (OpenSpec.ofChange fnStringsAnswersAsTheMembersSaySpec)) fnStringsAnswersAsTheMembersSayCard
/-- ITS FALSE NEIGHBOUR. Refute it at one input. -/
def FnStringsAnswersAsTheMembersSayToldWrongFalsely : Prop := Claim7.holds Tryz.pinned (.plain (OpenSpec.ofChange fnStringsAnswersAsTheMembersSayWrong)) fnStringsAnswersAsTheMembersSayCard

/-- THE TOLD AND TIED CARD OF 'zzlaws_jsonobj_b1.FnStringAndStringsAgreeOnOneString'. -/
def fnStringAndStringsAgreeOnOneStringCard : Claim7 := { stood := { row := fnStringAndStringsAgreeOnOneStringRow, standIns := [], harness := (true, "a3a25a7d3d6462b5ae793873fa99833c6e4fb5107e1324d1b844128e8c88066a"), looks := true }, told := true, laidByText := true, laidKinds := [.data, .data, .widerDeep, .widerDeep, .data, .data, .data, .data, .data, .data, .sentinel, .sentinel, .sentinel, .pinned, .pinned, .pinned], laidTests := true, laidLooks := .later, goes := false }
def FnStringAndStringsAgreeOnOneStringToldSaid : Prop := Claim7.holds Tryz.pinned (.plain (OpenSpec.ofChange fnStringAndStringsAgreeOnOneStringSpec)) fnStringAndStringsAgreeOnOneStringCard
/-- ITS FALSE NEIGHBOUR. Refute it at one input. -/
def FnStringAndStringsAgreeOnOneStringToldWrongFalsely : Prop := Claim7.holds Tryz.pinned (.plain (OpenSpec.ofChange fnStringAndStringsAgreeOnOneStringWrong)) fnStringAndStringsAgreeOnOneStringCard
end Rows
end Go.Proofs.Qxb6604447aGreatFmt
