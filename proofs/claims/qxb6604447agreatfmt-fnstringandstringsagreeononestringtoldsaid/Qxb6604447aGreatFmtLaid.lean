/-
  What the rows' listed variables give the walks (the two tables of utf8), and a world that holds them all.
-/
import Derived.Test.Qxb6604447aGreatFmtTie
import Derived.Test.Qxb6604447aGreatFmtCards
import Derived.Lib.LaidU8T
import Derived.Lib.LaidIn
import Derived.ProofKit
import Derived.OpenShut
import Derived.OpenVars
import Derived.LaidMore
import Derived.Lay
import Derived.SevenTiedAt
import Derived.Stop.JoinedAt
import Derived.Stop.JoinedTold
import Derived.Deep.DeepWitnessRef
import Derived.Deep.DeepWitnessRowRef
namespace Go.Proofs.Qxb6604447aGreatFmt
open Go.ChangeShapes Go.WideShapes Go.ChangeAt Go.RowKit Go.Kit Go.Lib Go.Shelf
open Go.Extern.Stop Go.Stop Go.Extern
set_option maxRecDepth 1000000

theorem own : ownKnob Tryz.prog.godebug = none := by kernel_rfl
def laidL : List (String × DataW Unit) := Rows.fnStringAndStringsAgreeOnOneStringRow.laid
def u8ren : Go.Shelf.Ren := ⟨fun n => n, fun | 5 => 5 | 119 => 86 | 138 => 88 | 139 => 89 | n => n, fun | 3 => 1 | 4 => 2 | n => n⟩
theorem first_eq : (Rows.laid_unicode_utf8_first : DataW Unit) = firstData := by kernel_rfl
theorem accept_eq : (Rows.laid_unicode_utf8_acceptRanges : DataW Unit) = acceptData := by kernel_rfl
theorem tabs_of_laid {W : World} (h : laidMetH Tryz.prog laidL W) : Lib.Utf8Tabs 1 2 W := by
  rw [MakeChecks.laidMetH_plain _ _ _ (by kernel_rfl)] at h
  exact utf8Tabs_of_readsT (ρ := u8ren) ⟨Tryz.underlying5, Tryz.underlying86, Tryz.underlying88, Tryz.underlying89⟩ ⟨by kernel_rfl, by kernel_rfl, by kernel_rfl, by kernel_rfl, by kernel_rfl, by kernel_rfl, by kernel_rfl⟩
    (first_eq ▸ Lib.laidMet.reads h (List.mem_of_getElem? (i := 15) rfl)) (accept_eq ▸ Lib.laidMet.reads h (List.mem_of_getElem? (i := 9) rfl))
theorem laid_met (os : Os) (args : Array Value) : laidMetH Tryz.prog laidL ((World.laidAll Tryz.prog os laidL).forCall (fun _ _ => 0) ⟨#[], args, []⟩).memory := by
  rw [MakeChecks.laidMetH_plain _ _ _ (by kernel_rfl)]
  exact laidMet_laidAll _ (by kernel_rfl) (by kernel_rfl)
end Go.Proofs.Qxb6604447aGreatFmt
