/-
  NARROWER THAN 'FOR EVERY INPUT', by the rows' own cells (each row's printed sentence says how): FnSequenceEndLooksOnlyAhead: laid · FnSequenceEndTakesWholeControlSequence: laid · FnStringEndStopsAtFirstTerminator: laid · FnStringEndLooksOnlyAhead: laid · FnStripKeepsOrderedPlainBytes: laid · FnStripPassesPlainPrefix: laid.
  DERIVED. THE GIVEN ROWS OF THIS SEAT. 6 by the template 'for every input the law returns true; each argument reads behind the call as it read before'; 0 by the template 'total and deterministic' (their statements: Qxb6603183aDoorTotals.lean).
  GIVEN WITH THE SEED: the statements are not yours to turn. If you find one false, say at which input.
  Laid BY PROGRAM, IN A SANDBOX (cutbox-rows.mjs): the forced cells as the released guide's own fill.sh prints them over the translation cb2e366fb5f84f42… (all of the seat's roots in one cut). By AI agents, Wed Nov 11 2026. No macro, syntax, notation, axiom, sorry.
-/
import Derived.Test.Qxb6603183aDoorChecked
import GoSem.PinnedTables
import GoSem.Claim
import GoSem.ClaimJoined
import GoSem.ClaimMapViews
import Derived.JoinedTies
import Derived.KernelRfl
namespace Go.Proofs.Qxb6603183aDoor
/- THE CELL 'sum', in the pinned program and in every row, IS THE sha256 OF THE DUMP (.gsa) THAT Qxb6603183aDoorProg.lean LOADS. Nothing in Lean hashes anything: it is a label: what it is worth is what the hold of that sum in a sandbox is worth. -/
noncomputable def Tryd.pinned : Pinned := { name := "qxb6603183adoor", sum := "cb2e366fb5f84f428129a99e5a9d283a5bcc6306a520897f90eda4eb2536da0d", checked := Tryd.checked }
namespace Rows
def none {H : Type} : Left H := { results := [], args := [] }

/- WHAT THE LISTED PACKAGE-LEVEL VARIABLES READ AS WHEN THE CALL BEGINS. Each datum BY PROGRAM (the guide's laid-datum.mjs) off the statement by which the dump's own 'gosem.cut.vars' lays the variable. In a bare row this is a premise. The card (Qxb6603183aDoorCards.lean) ties it to the program's text. -/
def laid_unicode_utf8_acceptRanges {H : Type} : DataW H := .agg [.agg [.lit (.int .u8 128), .lit (.int .u8 191)], .agg [.lit (.int .u8 160), .lit (.int .u8 191)], .agg [.lit (.int .u8 128), .lit (.int .u8 159)], .agg [.lit (.int .u8 144), .lit (.int .u8 191)], .agg [.lit (.int .u8 128), .lit (.int .u8 143)], .agg [.lit (.int .u8 0), .lit (.int .u8 0)], .agg [.lit (.int .u8 0), .lit (.int .u8 0)], .agg [.lit (.int .u8 0), .lit (.int .u8 0)], .agg [.lit (.int .u8 0), .lit (.int .u8 0)], .agg [.lit (.int .u8 0), .lit (.int .u8 0)], .agg [.lit (.int .u8 0), .lit (.int .u8 0)], .agg [.lit (.int .u8 0), .lit (.int .u8 0)], .agg [.lit (.int .u8 0), .lit (.int .u8 0)], .agg [.lit (.int .u8 0), .lit (.int .u8 0)], .agg [.lit (.int .u8 0), .lit (.int .u8 0)], .agg [.lit (.int .u8 0), .lit (.int .u8 0)]]
def laid_unicode_asciiFold {H : Type} : DataW H := .agg [.lit (.int .u16 0), .lit (.int .u16 1), .lit (.int .u16 2), .lit (.int .u16 3), .lit (.int .u16 4), .lit (.int .u16 5), .lit (.int .u16 6), .lit (.int .u16 7), .lit (.int .u16 8), .lit (.int .u16 9), .lit (.int .u16 10), .lit (.int .u16 11), .lit (.int .u16 12), .lit (.int .u16 13), .lit (.int .u16 14), .lit (.int .u16 15), .lit (.int .u16 16), .lit (.int .u16 17), .lit (.int .u16 18), .lit (.int .u16 19), .lit (.int .u16 20), .lit (.int .u16 21), .lit (.int .u16 22), .lit (.int .u16 23), .lit (.int .u16 24), .lit (.int .u16 25), .lit (.int .u16 26), .lit (.int .u16 27), .lit (.int .u16 28), .lit (.int .u16 29), .lit (.int .u16 30), .lit (.int .u16 31), .lit (.int .u16 32), .lit (.int .u16 33), .lit (.int .u16 34), .lit (.int .u16 35), .lit (.int .u16 36), .lit (.int .u16 37), .lit (.int .u16 38), .lit (.int .u16 39), .lit (.int .u16 40), .lit (.int .u16 41), .lit (.int .u16 42), .lit (.int .u16 43), .lit (.int .u16 44), .lit (.int .u16 45), .lit (.int .u16 46), .lit (.int .u16 47), .lit (.int .u16 48), .lit (.int .u16 49), .lit (.int .u16 50), .lit (.int .u16 51), .lit (.int .u16 52), .lit (.int .u16 53), .lit (.int .u16 54), .lit (.int .u16 55), .lit (.int .u16 56), .lit (.int .u16 57), .lit (.int .u16 58), .lit (.int .u16 59), .lit (.int .u16 60), .lit (.int .u16 61), .lit (.int .u16 62), .lit (.int .u16 63), .lit (.int .u16 64), .lit (.int .u16 97), .lit (.int .u16 98), .lit (.int .u16 99), .lit (.int .u16 100), .lit (.int .u16 101), .lit (.int .u16 102), .lit (.int .u16 103), .lit (.int .u16 104), .lit (.int .u16 105), .lit (.int .u16 106), .lit (.int .u16 107), .lit (.int .u16 108), .lit (.int .u16 109), .lit (.int .u16 110), .lit (.int .u16 111), .lit (.int .u16 112), .lit (.int .u16 113), .lit (.int .u16 114), .lit (.int .u16 115), .lit (.int .u16 116), .lit (.int .u16 117), .lit (.int .u16 118), .lit (.int .u16 119), .lit (.int .u16 120), .lit (.int .u16 121), .lit (.int .u16 122), .lit (.int .u16 91), .lit (.int .u16 92), .lit (.int .u16 93), .lit (.int .u16 94), .lit (.int .u16 95), .lit (.int .u16 96), .lit (.int .u16 65), .lit (.int .u16 66), .lit (.int .u16 67), .lit (.int .u16 68), .lit (.int .u16 69), .lit (.int .u16 70), .lit (.int .u16 71), .lit (.int .u16 72), .lit (.int .u16 73), .lit (.int .u16 74), .lit (.int .u16 8490), .lit (.int .u16 76), .lit (.int .u16 77), .lit (.int .u16 78), .lit (.int .u16 79), .lit (.int .u16 80), .lit (.int .u16 81), .lit (.int .u16 82), .lit (.int .u16 383), .lit (.int .u16 84), .lit (.int .u16 85), .lit (.int .u16 86), .lit (.int .u16 87), .lit (.int .u16 88), .lit (.int .u16 89), .lit (.int .u16 90), .lit (.int .u16 123), .lit (.int .u16 124), .lit (.int .u16 125), .lit (.int .u16 126), .lit (.int .u16 127)]
def laid_unicode_caseOrbit {H : Type} : DataW H := .slice [.agg [.lit (.int .u16 75), .lit (.int .u16 107)], .agg [.lit (.int .u16 83), .lit (.int .u16 115)], .agg [.lit (.int .u16 107), .lit (.int .u16 8490)], .agg [.lit (.int .u16 115), .lit (.int .u16 383)], .agg [.lit (.int .u16 181), .lit (.int .u16 924)], .agg [.lit (.int .u16 197), .lit (.int .u16 229)], .agg [.lit (.int .u16 223), .lit (.int .u16 7838)], .agg [.lit (.int .u16 229), .lit (.int .u16 8491)], .agg [.lit (.int .u16 304), .lit (.int .u16 304)], .agg [.lit (.int .u16 305), .lit (.int .u16 305)], .agg [.lit (.int .u16 383), .lit (.int .u16 83)], .agg [.lit (.int .u16 452), .lit (.int .u16 453)], .agg [.lit (.int .u16 453), .lit (.int .u16 454)], .agg [.lit (.int .u16 454), .lit (.int .u16 452)], .agg [.lit (.int .u16 455), .lit (.int .u16 456)], .agg [.lit (.int .u16 456), .lit (.int .u16 457)], .agg [.lit (.int .u16 457), .lit (.int .u16 455)], .agg [.lit (.int .u16 458), .lit (.int .u16 459)], .agg [.lit (.int .u16 459), .lit (.int .u16 460)], .agg [.lit (.int .u16 460), .lit (.int .u16 458)], .agg [.lit (.int .u16 497), .lit (.int .u16 498)], .agg [.lit (.int .u16 498), .lit (.int .u16 499)], .agg [.lit (.int .u16 499), .lit (.int .u16 497)], .agg [.lit (.int .u16 837), .lit (.int .u16 921)], .agg [.lit (.int .u16 912), .lit (.int .u16 8147)], .agg [.lit (.int .u16 914), .lit (.int .u16 946)], .agg [.lit (.int .u16 917), .lit (.int .u16 949)], .agg [.lit (.int .u16 920), .lit (.int .u16 952)], .agg [.lit (.int .u16 921), .lit (.int .u16 953)], .agg [.lit (.int .u16 922), .lit (.int .u16 954)], .agg [.lit (.int .u16 924), .lit (.int .u16 956)], .agg [.lit (.int .u16 928), .lit (.int .u16 960)], .agg [.lit (.int .u16 929), .lit (.int .u16 961)], .agg [.lit (.int .u16 931), .lit (.int .u16 962)], .agg [.lit (.int .u16 934), .lit (.int .u16 966)], .agg [.lit (.int .u16 937), .lit (.int .u16 969)], .agg [.lit (.int .u16 944), .lit (.int .u16 8163)], .agg [.lit (.int .u16 946), .lit (.int .u16 976)], .agg [.lit (.int .u16 949), .lit (.int .u16 1013)], .agg [.lit (.int .u16 952), .lit (.int .u16 977)], .agg [.lit (.int .u16 953), .lit (.int .u16 8126)], .agg [.lit (.int .u16 954), .lit (.int .u16 1008)], .agg [.lit (.int .u16 956), .lit (.int .u16 181)], .agg [.lit (.int .u16 960), .lit (.int .u16 982)], .agg [.lit (.int .u16 961), .lit (.int .u16 1009)], .agg [.lit (.int .u16 962), .lit (.int .u16 963)], .agg [.lit (.int .u16 963), .lit (.int .u16 931)], .agg [.lit (.int .u16 966), .lit (.int .u16 981)], .agg [.lit (.int .u16 969), .lit (.int .u16 8486)], .agg [.lit (.int .u16 976), .lit (.int .u16 914)], .agg [.lit (.int .u16 977), .lit (.int .u16 1012)], .agg [.lit (.int .u16 981), .lit (.int .u16 934)], .agg [.lit (.int .u16 982), .lit (.int .u16 928)], .agg [.lit (.int .u16 1008), .lit (.int .u16 922)], .agg [.lit (.int .u16 1009), .lit (.int .u16 929)], .agg [.lit (.int .u16 1012), .lit (.int .u16 920)], .agg [.lit (.int .u16 1013), .lit (.int .u16 917)], .agg [.lit (.int .u16 1042), .lit (.int .u16 1074)], .agg [.lit (.int .u16 1044), .lit (.int .u16 1076)], .agg [.lit (.int .u16 1054), .lit (.int .u16 1086)], .agg [.lit (.int .u16 1057), .lit (.int .u16 1089)], .agg [.lit (.int .u16 1058), .lit (.int .u16 1090)], .agg [.lit (.int .u16 1066), .lit (.int .u16 1098)], .agg [.lit (.int .u16 1074), .lit (.int .u16 7296)], .agg [.lit (.int .u16 1076), .lit (.int .u16 7297)], .agg [.lit (.int .u16 1086), .lit (.int .u16 7298)], .agg [.lit (.int .u16 1089), .lit (.int .u16 7299)], .agg [.lit (.int .u16 1090), .lit (.int .u16 7300)], .agg [.lit (.int .u16 1098), .lit (.int .u16 7302)], .agg [.lit (.int .u16 1122), .lit (.int .u16 1123)], .agg [.lit (.int .u16 1123), .lit (.int .u16 7303)], .agg [.lit (.int .u16 7296), .lit (.int .u16 1042)], .agg [.lit (.int .u16 7297), .lit (.int .u16 1044)], .agg [.lit (.int .u16 7298), .lit (.int .u16 1054)], .agg [.lit (.int .u16 7299), .lit (.int .u16 1057)], .agg [.lit (.int .u16 7300), .lit (.int .u16 7301)], .agg [.lit (.int .u16 7301), .lit (.int .u16 1058)], .agg [.lit (.int .u16 7302), .lit (.int .u16 1066)], .agg [.lit (.int .u16 7303), .lit (.int .u16 1122)], .agg [.lit (.int .u16 7304), .lit (.int .u16 42570)], .agg [.lit (.int .u16 7776), .lit (.int .u16 7777)], .agg [.lit (.int .u16 7777), .lit (.int .u16 7835)], .agg [.lit (.int .u16 7835), .lit (.int .u16 7776)], .agg [.lit (.int .u16 7838), .lit (.int .u16 223)], .agg [.lit (.int .u16 8126), .lit (.int .u16 837)], .agg [.lit (.int .u16 8147), .lit (.int .u16 912)], .agg [.lit (.int .u16 8163), .lit (.int .u16 944)], .agg [.lit (.int .u16 8486), .lit (.int .u16 937)], .agg [.lit (.int .u16 8490), .lit (.int .u16 75)], .agg [.lit (.int .u16 8491), .lit (.int .u16 197)], .agg [.lit (.int .u16 42570), .lit (.int .u16 42571)], .agg [.lit (.int .u16 42571), .lit (.int .u16 7304)], .agg [.lit (.int .u16 64261), .lit (.int .u16 64262)], .agg [.lit (.int .u16 64262), .lit (.int .u16 64261)]] []
/-- One of Go's own tables, pinned by name: the form's constant. -/
def laid_unicode_CaseRanges : DataW Unit := Go.Pinned.caseRanges
/-- One of Go's own tables, pinned by name: the form's constant. -/
def laid_unicode_utf8_first : DataW Unit := Go.Pinned.utf8First

/-- 'zzlaws_internal_term_b1.FnSequenceEndLooksOnlyAhead': WHATEVER THE INPUT: true; the input reads as it did. -/
def fnSequenceEndLooksOnlyAheadSpec : ChangeSpec := { name := "fnSequenceEndLooksOnlyAhead", fn := fun _ => fun
  | [d1, d2, d3, d4] => { results := [.lit (.bool true)], args := [d1, d2, d3, d4] }
  | _ => none }
def fnSequenceEndLooksOnlyAheadRow : OpenClaim := { program := "qxb6603183adoor", sum := "cb2e366fb5f84f428129a99e5a9d283a5bcc6306a520897f90eda4eb2536da0d", func := "example.com/gleanpost/gleanpost/zzlaws_internal_term_b1.FnSequenceEndLooksOnlyAhead", spec := "fnSequenceEndLooksOnlyAhead", named := ["unicode/utf8.first", "unicode/utf8.acceptRanges", "unicode.asciiFold", "unicode.caseOrbit", "unicode.CaseRanges"], apart := false, laid := [("unicode/utf8.acceptRanges", laid_unicode_utf8_acceptRanges), ("unicode.asciiFold", laid_unicode_asciiFold), ("unicode.caseOrbit", laid_unicode_caseOrbit), ("unicode.CaseRanges", laid_unicode_CaseRanges), ("unicode/utf8.first", laid_unicode_utf8_first)] }
def FnSequenceEndLooksOnlyAheadSaid : Prop := fnSequenceEndLooksOnlyAheadRow.holds Tryd.pinned (OpenSpec.ofChange fnSequenceEndLooksOnlyAheadSpec)

/-- ITS FALSE NEIGHBOUR: 'it returns false'. Refute it at one input. -/
def fnSequenceEndLooksOnlyAheadWrong : ChangeSpec := { name := "fnSequenceEndLooksOnlyAhead", fn := fun _ => fun
  | [d1, d2, d3, d4] => { results := [.lit (.bool false)], args := [d1, d2, d3, d4] }
  | _ => none }
def FnSequenceEndLooksOnlyAheadWrongFalsely : Prop := fnSequenceEndLooksOnlyAheadRow.holds Tryd.pinned (OpenSpec.ofChange fnSequenceEndLooksOnlyAheadWrong)

/-- 'zzlaws_internal_term_b1.FnSequenceEndTakesWholeControlSequence': WHATEVER THE INPUT: true; the input reads as it did. -/
def fnSequenceEndTakesWholeControlSequenceSpec : ChangeSpec := { name := "fnSequenceEndTakesWholeControlSequence", fn := fun _ => fun
  | [d1, d2, d3, d4] => { results := [.lit (.bool true)], args := [d1, d2, d3, d4] }
  | _ => none }
def fnSequenceEndTakesWholeControlSequenceRow : OpenClaim := { program := "qxb6603183adoor", sum := "cb2e366fb5f84f428129a99e5a9d283a5bcc6306a520897f90eda4eb2536da0d", func := "example.com/gleanpost/gleanpost/zzlaws_internal_term_b1.FnSequenceEndTakesWholeControlSequence", spec := "fnSequenceEndTakesWholeControlSequence", named := ["unicode/utf8.first", "unicode/utf8.acceptRanges", "unicode.asciiFold", "unicode.caseOrbit", "unicode.CaseRanges"], apart := false, laid := [("unicode/utf8.acceptRanges", laid_unicode_utf8_acceptRanges), ("unicode.asciiFold", laid_unicode_asciiFold), ("unicode.caseOrbit", laid_unicode_caseOrbit), ("unicode.CaseRanges", laid_unicode_CaseRanges), ("unicode/utf8.first", laid_unicode_utf8_first)] }
def FnSequenceEndTakesWholeControlSequenceSaid : Prop := fnSequenceEndTakesWholeControlSequenceRow.holds Tryd.pinned (OpenSpec.ofChange fnSequenceEndTakesWholeControlSequenceSpec)

/-- ITS FALSE NEIGHBOUR: 'it returns false'. Refute it at one input. -/
def fnSequenceEndTakesWholeControlSequenceWrong : ChangeSpec := { name := "fnSequenceEndTakesWholeControlSequence", fn := fun _ => fun
  | [d1, d2, d3, d4] => { results := [.lit (.bool false)], args := [d1, d2, d3, d4] }
  | _ => none }
def FnSequenceEndTakesWholeControlSequenceWrongFalsely : Prop := fnSequenceEndTakesWholeControlSequenceRow.holds Tryd.pinned (OpenSpec.ofChange fnSequenceEndTakesWholeControlSequenceWrong)

/-- 'zzlaws_internal_term_b1.FnStringEndStopsAtFirstTerminator': WHATEVER THE INPUT: true; the input reads as it did. -/
def fnStringEndStopsAtFirstTerminatorSpec : ChangeSpec := { name := "fnStringEndStopsAtFirstTerminator", fn := fun _ => fun
  | [d1, d2, d3, d4, d5] => { results := [.lit (.bool true)], args := [d1, d2, d3, d4, d5] }
  | _ => none }
def fnStringEndStopsAtFirstTerminatorRow : OpenClaim := { program := "qxb6603183adoor", sum := "cb2e366fb5f84f428129a99e5a9d283a5bcc6306a520897f90eda4eb2536da0d", func := "example.com/gleanpost/gleanpost/zzlaws_internal_term_b1.FnStringEndStopsAtFirstTerminator", spec := "fnStringEndStopsAtFirstTerminator", named := ["unicode/utf8.first", "unicode/utf8.acceptRanges", "unicode.asciiFold", "unicode.caseOrbit", "unicode.CaseRanges"], apart := false, laid := [("unicode/utf8.acceptRanges", laid_unicode_utf8_acceptRanges), ("unicode.asciiFold", laid_unicode_asciiFold), ("unicode.caseOrbit", laid_unicode_caseOrbit), ("unicode.CaseRanges", laid_unicode_CaseRanges), ("unicode/utf8.first", laid_unicode_utf8_first)] }
def FnStringEndStopsAtFirstTerminatorSaid : Prop := fnStringEndStopsAtFirstTerminatorRow.holds Tryd.pinned (OpenSpec.ofChange fnStringEndStopsAtFirstTerminatorSpec)

/-- ITS FALSE NEIGHBOUR: 'it returns false'. Refute it at one input. -/
def fnStringEndStopsAtFirstTerminatorWrong : ChangeSpec := { name := "fnStringEndStopsAtFirstTerminator", fn := fun _ => fun
  | [d1, d2, d3, d4, d5] => { results := [.lit (.bool false)], args := [d1, d2, d3, d4, d5] }
  | _ => none }
def FnStringEndStopsAtFirstTerminatorWrongFalsely : Prop := fnStringEndStopsAtFirstTerminatorRow.holds Tryd.pinned (OpenSpec.ofChange fnStringEndStopsAtFirstTerminatorWrong)

/-- 'zzlaws_internal_term_b1.FnStringEndLooksOnlyAhead': WHATEVER THE INPUT: true; the input reads as it did. -/
def fnStringEndLooksOnlyAheadSpec : ChangeSpec := { name := "fnStringEndLooksOnlyAhead", fn := fun _ => fun
  | [d1, d2, d3, d4] => { results := [.lit (.bool true)], args := [d1, d2, d3, d4] }
  | _ => none }
def fnStringEndLooksOnlyAheadRow : OpenClaim := { program := "qxb6603183adoor", sum := "cb2e366fb5f84f428129a99e5a9d283a5bcc6306a520897f90eda4eb2536da0d", func := "example.com/gleanpost/gleanpost/zzlaws_internal_term_b1.FnStringEndLooksOnlyAhead", spec := "fnStringEndLooksOnlyAhead", named := ["unicode/utf8.first", "unicode/utf8.acceptRanges", "unicode.asciiFold", "unicode.caseOrbit", "unicode.CaseRanges"], apart := false, laid := [("unicode/utf8.acceptRanges", laid_unicode_utf8_acceptRanges), ("unicode.asciiFold", laid_unicode_asciiFold), ("unicode.caseOrbit", laid_unicode_caseOrbit), ("unicode.CaseRanges", laid_unicode_CaseRanges), ("unicode/utf8.first", laid_unicode_utf8_first)] }
def FnStringEndLooksOnlyAheadSaid : Prop := fnStringEndLooksOnlyAheadRow.holds Tryd.pinned (OpenSpec.ofChange fnStringEndLooksOnlyAheadSpec)

/-- ITS FALSE NEIGHBOUR: 'it returns false'. Refute it at one input. -/
def fnStringEndLooksOnlyAheadWrong : ChangeSpec := { name := "fnStringEndLooksOnlyAhead", fn := fun _ => fun
  | [d1, d2, d3, d4] => { results := [.lit (.bool false)], args := [d1, d2, d3, d4] }
  | _ => none }
def FnStringEndLooksOnlyAheadWrongFalsely : Prop := fnStringEndLooksOnlyAheadRow.holds Tryd.pinned (OpenSpec.ofChange fnStringEndLooksOnlyAheadWrong)

/-- 'zzlaws_internal_term_b1.FnStripKeepsOrderedPlainBytes': WHATEVER THE INPUT: true; the input reads as it did. -/
def fnStripKeepsOrderedPlainBytesSpec : ChangeSpec := { name := "fnStripKeepsOrderedPlainBytes", fn := fun _ => fun
  | [d] => { results := [.lit (.bool true)], args := [d] }
  | _ => none }
def fnStripKeepsOrderedPlainBytesRow : OpenClaim := { program := "qxb6603183adoor", sum := "cb2e366fb5f84f428129a99e5a9d283a5bcc6306a520897f90eda4eb2536da0d", func := "example.com/gleanpost/gleanpost/zzlaws_internal_term_b1.FnStripKeepsOrderedPlainBytes", spec := "fnStripKeepsOrderedPlainBytes", inPlace := ["internal/bytealg.IndexByteString", "internal/abi.NoEscape", "internal/bytealg.MakeNoZero"], named := ["unicode/utf8.first", "unicode/utf8.acceptRanges", "unicode.asciiFold", "unicode.caseOrbit", "unicode.CaseRanges"], apart := false, laid := [("unicode/utf8.acceptRanges", laid_unicode_utf8_acceptRanges), ("unicode.asciiFold", laid_unicode_asciiFold), ("unicode.caseOrbit", laid_unicode_caseOrbit), ("unicode.CaseRanges", laid_unicode_CaseRanges), ("unicode/utf8.first", laid_unicode_utf8_first)] }
def FnStripKeepsOrderedPlainBytesSaid : Prop := fnStripKeepsOrderedPlainBytesRow.holds Tryd.pinned (OpenSpec.ofChange fnStripKeepsOrderedPlainBytesSpec)

/-- ITS FALSE NEIGHBOUR: 'it returns false'. Refute it at one input. -/
def fnStripKeepsOrderedPlainBytesWrong : ChangeSpec := { name := "fnStripKeepsOrderedPlainBytes", fn := fun _ => fun
  | [d] => { results := [.lit (.bool false)], args := [d] }
  | _ => none }
def FnStripKeepsOrderedPlainBytesWrongFalsely : Prop := fnStripKeepsOrderedPlainBytesRow.holds Tryd.pinned (OpenSpec.ofChange fnStripKeepsOrderedPlainBytesWrong)

/-- 'zzlaws_internal_term_b1.FnStripPassesPlainPrefix': WHATEVER THE INPUT: true; the input reads as it did. -/
def fnStripPassesPlainPrefixSpec : ChangeSpec := { name := "fnStripPassesPlainPrefix", fn := fun _ => fun
  | [d1, d2] => { results := [.lit (.bool true)], args := [d1, d2] }
  | _ => none }
def fnStripPassesPlainPrefixRow : OpenClaim := { program := "qxb6603183adoor", sum := "cb2e366fb5f84f428129a99e5a9d283a5bcc6306a520897f90eda4eb2536da0d", func := "example.com/gleanpost/gleanpost/zzlaws_internal_term_b1.FnStripPassesPlainPrefix", spec := "fnStripPassesPlainPrefix", inPlace := ["internal/bytealg.IndexByteString", "internal/abi.NoEscape", "internal/bytealg.MakeNoZero"], named := ["unicode/utf8.first", "unicode/utf8.acceptRanges", "unicode.asciiFold", "unicode.caseOrbit", "unicode.CaseRanges"], apart := false, laid := [("unicode/utf8.acceptRanges", laid_unicode_utf8_acceptRanges), ("unicode.asciiFold", laid_unicode_asciiFold), ("unicode.caseOrbit", laid_unicode_caseOrbit), ("unicode.CaseRanges", laid_unicode_CaseRanges), ("unicode/utf8.first", laid_unicode_utf8_first)] }
def FnStripPassesPlainPrefixSaid : Prop := fnStripPassesPlainPrefixRow.holds Tryd.pinned (OpenSpec.ofChange fnStripPassesPlainPrefixSpec)

/-- ITS FALSE NEIGHBOUR: 'it returns false'. Refute it at one input. -/
def fnStripPassesPlainPrefixWrong : ChangeSpec := { name := "fnStripPassesPlainPrefix", fn := fun _ => fun
  | [d1, d2] => { results := [.lit (.bool false)], args := [d1, d2] }
  | _ => none }
def FnStripPassesPlainPrefixWrongFalsely : Prop := fnStripPassesPlainPrefixRow.holds Tryd.pinned (OpenSpec.ofChange fnStripPassesPlainPrefixWrong)

end Rows
end Go.Proofs.Qxb6603183aDoor
