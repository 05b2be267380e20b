/-
  What the rows' listed variables give the walks (the cells of the table of single folds), and a world that holds them all.
-/
import Derived.Test.Qxb6603183aDoorTie
import Derived.Test.Qxb6603183aDoorFold
import Derived.ProofKit
import Derived.OpenShut
import Derived.LaidMore
import Derived.Lay
import Derived.SevenTiedAt
import Derived.Stop.Joined
namespace Go.Proofs.Qxb6603183aDoor
open Go.ChangeShapes Go.WideShapes Go.ChangeAt Go.RowKit
set_option maxRecDepth 1000000

theorem own : ownKnob Tryd.prog.godebug = none := by kernel_rfl
def laidL : List (String × DataW Unit) := Rows.fnStringEndLooksOnlyAheadRow.laid
def asciiZ : List Int := [0, 1, 2, 3, 4, 5, 6, 7, 8, 9, 10, 11, 12, 13, 14, 15, 16, 17, 18, 19, 20, 21, 22, 23, 24, 25, 26, 27, 28, 29, 30, 31, 32, 33, 34, 35, 36, 37, 38, 39, 40, 41, 42, 43, 44, 45, 46, 47, 48, 49, 50, 51, 52, 53, 54, 55, 56, 57, 58, 59, 60, 61, 62, 63, 64, 97, 98, 99, 100, 101, 102, 103, 104, 105, 106, 107, 108, 109, 110, 111, 112, 113, 114, 115, 116, 117, 118, 119, 120, 121, 122, 91, 92, 93, 94, 95, 96, 65, 66, 67, 68, 69, 70, 71, 72, 73, 74, 8490, 76, 77, 78, 79, 80, 81, 82, 383, 84, 85, 86, 87, 88, 89, 90, 123, 124, 125, 126, 127]
theorem ascii_eq : (Rows.laid_unicode_asciiFold : DataW Unit) = .agg (asciiZ.map fun n => .lit (.int .u16 n)) := by kernel_rfl

theorem fold_cell {W : World} (h : laidMetH Tryd.prog laidL W) (r : Nat) (hr : r < 128) : W.cell? ⟨1, r, none⟩ = some (.int .u16 (asciiZ.getD r 0)) := by
  rw [MakeChecks.laidMetH_plain _ _ _ (by kernel_rfl)] at h
  obtain ⟨ps, ⟨_, _, _, _, _, _, _, _, _, _, ⟨g, t, cs, fuel, p, q, hg, ht, hv, hd, _, _⟩, _⟩, _, _⟩ := h
  obtain rfl := Option.some.inj ((show Tryd.prog.globalNamed "unicode.asciiFold" = some 1 by kernel_rfl).symm.trans hg)
  obtain rfl := Option.some.inj ((show (Tryd.prog.globals[1]?).map (·.type) = some 51 by kernel_rfl).symm.trans ht)
  obtain ⟨xs, m, _, ex, _, hl, hel⟩ := DataW.trod_array Tryd.underlying51 hd
  have c5 : Tryd.prog.cellsOf 50 = 1 := by kernel_rfl
  have hE := hel r hr
  rw [c5, Nat.mul_one, List.getElem?_eq_getElem (by omega)] at hE
  obtain ⟨z, e1, e2, _⟩ := DataW.trod_int Tryd.underlying50 hE
  have hlen : asciiZ.length = 128 := by kernel_rfl
  have e3 : (xs.map (·.1)) = asciiZ.map fun n => .lit (.int .u16 n) := (DataW.agg.inj (ascii_eq.symm.trans (Prod.mk.inj ex).1)).symm
  have e4 : (xs.map (·.1))[r]? = (asciiZ.map fun n => (DataW.lit (.int .u16 n) : DataW Unit))[r]? := by rw [e3]
  rw [List.getElem?_map, List.getElem?_map, List.getElem?_eq_getElem (by omega : r < xs.length), List.getElem?_eq_getElem (by omega : r < asciiZ.length), e2] at e4
  have hz : z = asciiZ.getD r 0 := by
    simp only [Option.map_some, Option.some.injEq, DataW.lit.injEq, Lit.int.injEq, true_and] at e4
    rw [e4, List.getD, List.getElem?_eq_getElem (by omega : r < asciiZ.length)]; rfl
  rw [World.var?_cell hg hv r, ← hz]
  have : cs.toList[r]? = some (.int .u16 z) := by
    have h0 : ((cs.toList.drop r).take 1)[0]? = some (.int .u16 z) := by rw [e1]; rfl
    simpa using h0
  simpa using this

theorem folds_of_laid {W : World} (h : laidMetH Tryd.prog laidL W) : Folds W :=
  ⟨fold_cell h 92 (by decide), fold_cell h 48 (by decide), fold_cell h 49 (by decide), fold_cell h 55 (by decide), fold_cell h 117 (by decide), fold_cell h 85 (by decide), fold_cell h 98 (by decide), fold_cell h 66 (by decide)⟩

theorem laid_met (os : Os) (args : Array Value) : laidMetH Tryd.prog laidL ((World.laidAll Tryd.prog os laidL).forCall (fun _ _ => 0) ⟨#[], args, []⟩).memory := by
  rw [MakeChecks.laidMetH_plain _ _ _ (by kernel_rfl)]
  exact laidMet_laidAll _ (by kernel_rfl) (by kernel_rfl)
end Go.Proofs.Qxb6603183aDoor
