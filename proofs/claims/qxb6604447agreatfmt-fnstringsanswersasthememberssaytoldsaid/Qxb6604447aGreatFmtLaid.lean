/-
  What the rows' listed variables give the walks (the two tables of utf8), and a world that holds them all.
-/
import Derived.Test.Qxb6604447aGreatFmtTie
import Derived.Test.Qxb6604447aGreatFmtVal
import Derived.Deep.Strs
import Derived.Test.Qxb6604447aGreatFmtCards
import Derived.Lib.LaidU8T
import Derived.Lib.LaidIn
import Derived.ProofKit
import Derived.OpenShut
import Derived.OpenVars
import Derived.LaidMore
import Derived.Lay
import Derived.SevenTiedAt
import Derived.Stop.JoinedAt
import Derived.Stop.JoinedTold
import Derived.Deep.DeepWitnessRef
import Derived.Deep.DeepWitnessRowRef
namespace Go.Proofs.Qxb6604447aGreatFmt
open Go.ChangeShapes Go.WideShapes Go.ChangeAt Go.RowKit Go.Kit Go.Lib Go.Shelf
open Go.Extern.Stop Go.Stop Go.Extern
set_option maxRecDepth 1000000

theorem own : ownKnob Tryz.prog.godebug = none := by kernel_rfl
def laidL : List (String × DataW Unit) := Rows.fnStringAndStringsAgreeOnOneStringRow.laid
def u8ren : Go.Shelf.Ren := ⟨fun n => n, fun | 5 => 5 | 119 => 86 | 138 => 88 | 139 => 89 | n => n, fun | 3 => 1 | 4 => 2 | n => n⟩
theorem first_eq : (Rows.laid_unicode_utf8_first : DataW Unit) = firstData := by kernel_rfl
theorem accept_eq : (Rows.laid_unicode_utf8_acceptRanges : DataW Unit) = acceptData := by kernel_rfl
/-- A listed variable's first cell. -/
theorem cell_of_var {W : World} {n : String} {g : Nat} {cs : Array Value} {x : Value} (hg : Tryz.prog.globalNamed n = some g) (h : W.var? Tryz.prog n = some cs) (h0 : cs[0]? = some x) : W.cell? ⟨g, 0, none⟩ = some x := by
  unfold World.var? at h
  rw [hg] at h
  simp only [Option.bind_some] at h
  split at h
  · next c t f hb =>
    cases h
    simp [World.cell?, hb, h0]
  · cases h
theorem opt_named : Tryz.prog.globalNamed "internal/strconv.optimize" = some 7 := by kernel_rfl
theorem inf_named : Tryz.prog.globalNamed "internal/strconv.float64info" = some 8 := by kernel_rfl
theorem opt_type : (Tryz.prog.globals[7]?).map (·.type) = some 4 := by kernel_rfl
theorem inf_type : (Tryz.prog.globals[8]?).map (·.type) = some 113 := by kernel_rfl
theorem cells59 : Tryz.prog.cellsOf 59 = 1 := by kernel_rfl
theorem inf_of_reads {W : World} (h : VarReads Tryz.prog W "internal/strconv.float64info" (.agg [.lit (.int .u64 52), .lit (.int .u64 11), .lit (.int .i64 (-1023))])) : W.cell? ⟨8, 0, none⟩ = some (.int .u64 52) := by
  obtain ⟨g, t, cs, fuel, p, hg, ht, hv, htr⟩ := h
  rw [inf_named] at hg
  cases hg
  rw [inf_type] at ht
  cases ht
  obtain ⟨y0, y1, y2, n, hx, _, g0, _, _⟩ := Go.Deep.trod_struct3 Tryz.underlying113 htr
  simp only [cells59] at g0
  obtain ⟨k, hc, hy, _⟩ := DataW.trod_int Tryz.underlying59 g0
  subst hy
  simp only [Prod.mk.injEq, DataW.agg.injEq, List.cons.injEq, DataW.lit.injEq, Lit.int.injEq, true_and] at hx
  obtain ⟨⟨rfl, _⟩, _⟩ := hx
  refine cell_of_var inf_named hv ?_
  have h1 := congrArg (·[0]?) hc
  simpa using h1
theorem opt_of_reads {W : World} (h : VarReads Tryz.prog W "internal/strconv.optimize" (.lit (.bool true))) : W.cell? ⟨7, 0, none⟩ = some (.bool true) := by
  obtain ⟨g, t, cs, fuel, p, hg, ht, hv, htr⟩ := h
  rw [opt_named] at hg
  cases hg
  rw [opt_type] at ht
  cases ht
  obtain ⟨b, hc, hx⟩ := DataW.trod_bool Tryz.underlying4 htr
  cases hx
  refine cell_of_var opt_named hv ?_
  rw [← Array.getElem?_toList, hc]; rfl
theorem tabs_of_laid8 {W : World} (h : laidMetH Tryz.prog laidL W) : Lib.Utf8Tabs 1 2 W := by
  rw [MakeChecks.laidMetH_plain _ _ _ (by kernel_rfl)] at h
  exact utf8Tabs_of_readsT (ρ := u8ren) ⟨Tryz.underlying5, Tryz.underlying86, Tryz.underlying88, Tryz.underlying89⟩ ⟨by kernel_rfl, by kernel_rfl, by kernel_rfl, by kernel_rfl, by kernel_rfl, by kernel_rfl, by kernel_rfl⟩
    (first_eq ▸ Lib.laidMet.reads h (List.mem_of_getElem? (i := 15) rfl)) (accept_eq ▸ Lib.laidMet.reads h (List.mem_of_getElem? (i := 9) rfl))
theorem tabs_of_laid {W : World} (h : laidMetH Tryz.prog laidL W) : Tb W := by
  refine ⟨tabs_of_laid8 h, ?_, ?_⟩
  · rw [MakeChecks.laidMetH_plain _ _ _ (by kernel_rfl)] at h
    exact opt_of_reads (Lib.laidMet.reads h (List.mem_of_getElem? (i := 4) rfl))
  · rw [MakeChecks.laidMetH_plain _ _ _ (by kernel_rfl)] at h
    exact inf_of_reads (Lib.laidMet.reads h (List.mem_of_getElem? (i := 3) rfl))
theorem laid_met (os : Os) (args : Array Value) : laidMetH Tryz.prog laidL ((World.laidAll Tryz.prog os laidL).forCall (fun _ _ => 0) ⟨#[], args, []⟩).memory := by
  rw [MakeChecks.laidMetH_plain _ _ _ (by kernel_rfl)]
  exact laidMet_laidAll _ (by kernel_rfl) (by kernel_rfl)
end Go.Proofs.Qxb6604447aGreatFmt
