/-
  FnStringAndStringsAgreeOnOneString: the row, fmt's texts told, and the told and tied card.
-/
import Derived.Test.Qxb6604447aGreatFmtLaid
import Derived.Test.Qxb6604447aGreatFmtLawD
namespace Go.Proofs.Qxb6604447aGreatFmt
open Go.ChangeShapes Go.WideShapes Go.ChangeAt Go.RowKit Go.Kit Go.Lib Go.Shelf
open Go.ChangeMaps (open_string shut_string)
open Go.Extern.Stop Go.Stop Go.Extern
set_option maxRecDepth 1000000

theorem laidOut : laidOutB Tryz.prog = true := by kernel_rfl
theorem stops : Tryz.pinned.checked.prog.stops = ["fmt.errorf"] := by kernel_rfl
theorem stopKnobs : Tryz.pinned.checked.prog.stopKnobs = [] := by kernel_rfl
theorem quiet (os : Os) : Stop.quiet Tryz.pinned.checked.prog os := by
  intro k hk
  rw [stopKnobs] at hk
  cases hk

theorem witness_zip {H : Type} {enc : TypeId × Value → H} {C : Checked} {os : Os} {f : FuncId} {fn : Func} {s : OpenSpec} {conds : List PathCond} {apart : Bool} {laid : List (String × DataW Unit)} (modest : Bool) (w0 : World) (args : Array Value) (hos : w0.os = os)
    (hv : (w0.forCall (fun _ _ => 0) ⟨#[], args, []⟩).variablesZipB C.prog = true)
    (hr : ((w0.forCall (fun _ _ => 0) ⟨#[], args, []⟩).heap.toList.drop C.prog.globals.size).take ((begin C.prog (fun _ _ => 0) default).world.heap.size - C.prog.globals.size) =
      (begin C.prog (fun _ _ => 0) default).world.heap.toList.drop C.prog.globals.size)
    (hok : Input.okWideB C.prog (w0.forCall (fun _ _ => 0) ⟨#[], args, []⟩) f ⟨#[], args, []⟩ = true)
    (hrow : s.preRow enc C.prog fn conds apart laid (w0.forCall (fun _ _ => 0) ⟨#[], args, []⟩).memory args) (F : Stop.Interp) :
    ∃ (w : World) (tape : Tape) (i : Input), w.os = os ∧ (w.forCall tape i).Shaped C.prog ∧ i.vars = [] ∧ Input.okWide C.prog (w.forCall tape i) .any w.heap.size f i ∧
      s.preRow enc C.prog fn conds apart laid (w.forCall tape i).memory i.args ∧ ({ modest := modest } : Assume).holds C.prog (lone (Frame.enter C.prog f i.args .normal) [] (w.forCall tape i)) ∧ F.answers tape :=
  ⟨w0, F.over fun _ _ => 0, ⟨#[], args, []⟩, hos, (show (w0.forCall (fun _ _ => 0) ⟨#[], args, []⟩).Shaped C.prog from World.shaped_of_ZipB hv hr), (Input.okWide_of_okWideB (base := 0) hok).1, (Input.okWide_of_okWideB hok).2, hrow, by
    simp only [Assume.holds]
    exact ⟨by simp, by simp, fun _ => F.over_modest Modest.zero, by simp, by simp⟩, F.over_answers _⟩

theorem witnessC (os : Os) {H : Type} (enc : TypeId × Value → H) :
    (OpenSpec.ofChange Rows.fnStringAndStringsAgreeOnOneStringSpec).preRow enc Tryz.prog Tryz.f5 [] false laidL ((World.laidAll Tryz.prog os laidL).forCall (fun _ _ => 0) ⟨#[], #[.string ⟨#[]⟩, .string ⟨#[]⟩, .string ⟨#[]⟩], []⟩).memory #[.string ⟨#[]⟩, .string ⟨#[]⟩, .string ⟨#[]⟩] :=
  OpenSpec.preRow_of_B rfl 8 (by kernel_rfl) (by kernel_rfl) (laid_met os _)

theorem liftedC (os : Os) (started : os.Started) (H : Type) (enc : TypeId × Value → H) :
    ReturnsInTold none {} Tryz.checked os 5 .any Input.okWide ((OpenSpec.ofChange Rows.fnStringAndStringsAgreeOnOneStringSpec).preRow enc Tryz.prog Tryz.f5 [] false laidL)
      (fun F => ((OpenSpec.ofChange Rows.fnStringAndStringsAgreeOnOneStringSpec).at F).post enc Tryz.prog Tryz.f5 false true false false) (aloneAtReturn Tryz.prog) nothingAlways := by
  refine returnsInTold_of_row (C := Tryz.checked) (s := OpenSpec.ofChange Rows.fnStringAndStringsAgreeOnOneStringSpec) (by kernel_rfl) own started (by kernel_rfl) Tryz.func5
    (witness_zip (enc := enc) (C := Tryz.checked) false (World.laidAll Tryz.prog os laidL) #[.string ⟨#[]⟩, .string ⟨#[]⟩, .string ⟨#[]⟩] (World.laidAll_os _ _ _) (by kernel_rfl) (by kernel_rfl) (by kernel_rfl) (witnessC os enc)) ?_
  intro F W base args ds gs before _ hF hval0 hW _ _ _ hL _
  have hval : ∀ (j : Nat) t v, Tryz.f5.params[j]? = some t → args[j]? = some v → Value.okWide Tryz.prog W .any base t v := hval0
  have hW' := hW
  obtain ⟨p, q, hA0, hV, rfl, _, _⟩ := hW
  have hA : DataW.TrodAll enc Tryz.prog W 0 (fun _ => true) true Tryz.f5.params.toList args.toList ds p := hA0
  rw [Tryz.params5] at hA hval
  obtain ⟨v0, v1, v2, d0, d1, d2, p0, p1, p2, rfl, rfl, rfl, h0, h1, h2⟩ := trodAll_three hA
  obtain ⟨s0, rfl, rfl, rfl, w0⟩ := open_string Tryz.underlying9 (hval 0 9 v0 rfl rfl) h0
  obtain ⟨s1, rfl, rfl, rfl, w1⟩ := open_string Tryz.underlying9 (hval 1 9 v1 rfl rfl) h1
  obtain ⟨s2, rfl, rfl, rfl, w2⟩ := open_string Tryz.underlying9 (hval 2 9 v2 rfl rfl) h2
  obtain ⟨g1, rfl⟩ : ∃ g1, gs = [g1] := by
    obtain ⟨_, _, _, _, d, _, h, _⟩ := trodVars_one hV
    exact ⟨_, h⟩
  refine (lawC F.told s0 s1 s2 W hF (tabs_of_laid hL)).mono fun e W' ⟨he, hb⟩ => ?_
  subst he
  exact ⟨_, rfl, _, _, _, [], [], q, hW', trodAll_mk1 (shut_bool Tryz.underlying4 true), trodAll_mk3 (shut_string Tryz.underlying9 w0) (shut_string Tryz.underlying9 w1) (shut_string Tryz.underlying9 w2), hb.trodVars laidOut (by kernel_rfl) hV, hb.frame _, fun h => by cases h⟩

theorem fnStringAndStringsAgreeOnOneString_card : Rows.FnStringAndStringsAgreeOnOneStringToldSaid :=
  Claim7.holds_of_told_tied_any_at .later 5 Tryz.f5 "fmt.errorf" [] [] _ _ _ _ _ (by kernel_rfl) rfl rfl rfl laidOut (by kernel_rfl) rfl ⟨rfl, rfl, rfl, rfl, rfl, rfl, rfl⟩ rfl rfl (by kernel_rfl) (by kernel_rfl) Tryz.func5 (by kernel_rfl)
    (of_decide_eq_true (by kernel_rfl)) (of_decide_eq_true (by kernel_rfl)) stops.symm rfl stopKnobs.symm (by kernel_rfl)
    (by kernel_rfl) (by kernel_rfl) (by kernel_rfl) (by kernel_rfl) (by kernel_rfl) (by kernel_rfl) (by kernel_rfl) (by kernel_rfl) (by kernel_rfl) rfl (by kernel_rfl) rfl rfl
    rfl rfl
    rfl (by kernel_rfl) (by kernel_rfl) (by kernel_rfl) (by decide) (by kernel_rfl) fnStringAndStringsAgreeOnOneString_row_tie
    (OpenClaim.moreEntering_of (by kernel_rfl) (by kernel_rfl) (by kernel_rfl) (by kernel_rfl) (by kernel_rfl) (by kernel_rfl) (by kernel_rfl) (by kernel_rfl) (by kernel_rfl) (by kernel_rfl))
    ⟨_, WideRow.started_initial, quiet _⟩
    (fun os started _ H enc _ => liftedC os started H enc)
end Go.Proofs.Qxb6604447aGreatFmt
