/-
  What the rows share: closed facts on the program, and a witness's world.
-/
import Derived.Test.Qxb6604447aGreatFmtLaid
namespace Go.Proofs.Qxb6604447aGreatFmt
open Go.ChangeShapes Go.WideShapes Go.ChangeAt Go.RowKit Go.Kit Go.Lib Go.Shelf
open Go.ChangeMaps (open_string shut_string)
open Go.Extern.Stop Go.Stop Go.Extern
set_option maxRecDepth 1000000

theorem laidOut : laidOutB Tryz.prog = true := by kernel_rfl
theorem stops : Tryz.pinned.checked.prog.stops = ["fmt.errorf"] := by kernel_rfl
theorem stopKnobs : Tryz.pinned.checked.prog.stopKnobs = [] := by kernel_rfl
theorem quiet (os : Os) : Stop.quiet Tryz.pinned.checked.prog os := by
  intro k hk
  rw [stopKnobs] at hk
  cases hk

theorem witness_zip {H : Type} {enc : TypeId × Value → H} {C : Checked} {os : Os} {f : FuncId} {fn : Func} {s : OpenSpec} {conds : List PathCond} {apart : Bool} {laid : List (String × DataW Unit)} (modest : Bool) (w0 : World) (args : Array Value) (hos : w0.os = os)
    (hv : (w0.forCall (fun _ _ => 0) ⟨#[], args, []⟩).variablesZipB C.prog = true)
    (hr : ((w0.forCall (fun _ _ => 0) ⟨#[], args, []⟩).heap.toList.drop C.prog.globals.size).take ((begin C.prog (fun _ _ => 0) default).world.heap.size - C.prog.globals.size) =
      (begin C.prog (fun _ _ => 0) default).world.heap.toList.drop C.prog.globals.size)
    (hok : Input.okWideB C.prog (w0.forCall (fun _ _ => 0) ⟨#[], args, []⟩) f ⟨#[], args, []⟩ = true)
    (hrow : s.preRow enc C.prog fn conds apart laid (w0.forCall (fun _ _ => 0) ⟨#[], args, []⟩).memory args) (F : Stop.Interp) :
    ∃ (w : World) (tape : Tape) (i : Input), w.os = os ∧ (w.forCall tape i).Shaped C.prog ∧ i.vars = [] ∧ Input.okWide C.prog (w.forCall tape i) .any w.heap.size f i ∧
      s.preRow enc C.prog fn conds apart laid (w.forCall tape i).memory i.args ∧ ({ modest := modest } : Assume).holds C.prog (lone (Frame.enter C.prog f i.args .normal) [] (w.forCall tape i)) ∧ F.answers tape :=
  ⟨w0, F.over fun _ _ => 0, ⟨#[], args, []⟩, hos, (show (w0.forCall (fun _ _ => 0) ⟨#[], args, []⟩).Shaped C.prog from World.shaped_of_ZipB hv hr), (Input.okWide_of_okWideB (base := 0) hok).1, (Input.okWide_of_okWideB hok).2, hrow, by
    simp only [Assume.holds]
    exact ⟨by simp, by simp, fun _ => F.over_modest Modest.zero, by simp, by simp⟩, F.over_answers _⟩

end Go.Proofs.Qxb6604447aGreatFmt
