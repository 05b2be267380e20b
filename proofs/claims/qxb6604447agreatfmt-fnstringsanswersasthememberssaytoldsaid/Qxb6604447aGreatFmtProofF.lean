/-
  FnStringsAnswersAsTheMembersSay: the row, fmt's texts told, and the told and tied card.
-/
import Derived.Test.Qxb6604447aGreatFmtWit
import Derived.Test.Qxb6604447aGreatFmtOpen
import Derived.Test.Qxb6604447aGreatFmtLawF
import Derived.Carry
namespace Go.Proofs.Qxb6604447aGreatFmt
open Go.ChangeShapes Go.WideShapes Go.ChangeAt Go.RowKit Go.Kit Go.Lib Go.Shelf
open Go.ChangeMaps (open_string shut_string)
open Go.Extern.Stop Go.Stop Go.Extern
set_option maxRecDepth 1000000

theorem witnessF (os : Os) {H : Type} (enc : TypeId × Value → H) :
    (OpenSpec.ofChange Rows.fnStringsAnswersAsTheMembersSaySpec).preRow enc Tryz.prog Tryz.f4 [] false laidL ((World.laidAll Tryz.prog os laidL).forCall (fun _ _ => 0) ⟨#[], #[.slice none 0 0, .string ⟨#[]⟩], []⟩).memory #[.slice none 0 0, .string ⟨#[]⟩] :=
  OpenSpec.preRow_of_B rfl 8 (by kernel_rfl) (by kernel_rfl) (laid_met os _)

theorem liftedF (os : Os) (started : os.Started) (H : Type) (enc : TypeId × Value → H) :
    ReturnsInTold none {} Tryz.checked os 4 .any Input.okWide ((OpenSpec.ofChange Rows.fnStringsAnswersAsTheMembersSaySpec).preRow enc Tryz.prog Tryz.f4 [] false laidL)
      (fun F => ((OpenSpec.ofChange Rows.fnStringsAnswersAsTheMembersSaySpec).at F).post enc Tryz.prog Tryz.f4 false true false false) (aloneAtReturn Tryz.prog) nothingAlways := by
  refine returnsInTold_of_row (C := Tryz.checked) (s := OpenSpec.ofChange Rows.fnStringsAnswersAsTheMembersSaySpec) (by kernel_rfl) own started (by kernel_rfl) Tryz.func4
    (witness_zip (enc := enc) (C := Tryz.checked) false (World.laidAll Tryz.prog os laidL) #[.slice none 0 0, .string ⟨#[]⟩] (World.laidAll_os _ _ _) (by kernel_rfl) (by kernel_rfl) (by kernel_rfl) (witnessF os enc)) ?_
  intro F W base args ds gs before _ hF hval0 hW _ _ _ hL _
  have hval : ∀ (j : Nat) t v, Tryz.f4.params[j]? = some t → args[j]? = some v → Value.okWide Tryz.prog W .any base t v := hval0
  have hW' := hW
  obtain ⟨p, q, hA0, hV, rfl, _, _⟩ := hW
  have hA : DataW.TrodAll enc Tryz.prog W 0 (fun _ => true) true Tryz.f4.params.toList args.toList ds p := hA0
  rw [Tryz.params4] at hA hval
  obtain ⟨v0, v1, d0, d1, p0, p1, rfl, rfl, rfl, h0, h1⟩ := trodAll_two hA
  obtain ⟨s1, rfl, rfl, rfl, w1⟩ := open_string Tryz.underlying9 (hval 1 9 v1 rfl rfl) h1
  obtain ⟨a0, l0, c0, rfl⟩ := okWide_slice Tryz.underlying22 (hval 0 22 v0 rfl rfl)
  obtain ⟨ms, hms⟩ : ∃ ms, MV (.slice a0 l0 c0) ms W := by
    obtain ⟨fuel, hf⟩ := h0
    exact open_members (by simpa [Value.cells] using hf)
  obtain ⟨g1, rfl⟩ : ∃ g1, gs = [g1] := by
    obtain ⟨_, _, _, _, d, _, h, _⟩ := trodVars_one hV
    exact ⟨_, h⟩
  have hlt : ∀ x ∈ p0, x.block < W.heap.size := fun x hx => hW'.lt x (List.mem_append_left _ (List.mem_append_left _ hx))
  refine (lawF F.told _ ms s1 W hms hF (tabs_of_laid hL)).mono fun e W' ⟨he, hb⟩ => ?_
  subst he
  exact ⟨_, rfl, _, _, _, [], _, q, hW', trodAll_mk1 (shut_bool Tryz.underlying4 true), trodAll_mk2 (Below.trod laidOut (by kernel_rfl) (of_decide_eq_true (by kernel_rfl)) h0 hb hlt) (shut_string Tryz.underlying9 w1), hb.trodVars laidOut (by kernel_rfl) hV, hb.frame _, fun h => by cases h⟩

theorem fnStringsAnswersAsTheMembersSay_card : Rows.FnStringsAnswersAsTheMembersSayToldSaid :=
  Claim7.holds_of_told_tied_any_at .later 4 Tryz.f4 "fmt.errorf" [] [] _ _ _ _ _ (by kernel_rfl) rfl rfl rfl laidOut (by kernel_rfl) rfl ⟨rfl, rfl, rfl, rfl, rfl, rfl, rfl⟩ rfl rfl (by kernel_rfl) (by kernel_rfl) Tryz.func4 (by kernel_rfl)
    (of_decide_eq_true (by kernel_rfl)) (of_decide_eq_true (by kernel_rfl)) stops.symm rfl stopKnobs.symm (by kernel_rfl)
    (by kernel_rfl) (by kernel_rfl) (by kernel_rfl) (by kernel_rfl) (by kernel_rfl) (by kernel_rfl) (by kernel_rfl) (by kernel_rfl) (by kernel_rfl) rfl (by kernel_rfl) rfl rfl
    rfl rfl
    rfl (by kernel_rfl) (by kernel_rfl) (by kernel_rfl) (by decide) (by kernel_rfl) fnStringsAnswersAsTheMembersSay_row_tie
    (OpenClaim.moreEntering_of (by kernel_rfl) (by kernel_rfl) (by kernel_rfl) (by kernel_rfl) (by kernel_rfl) (by kernel_rfl) (by kernel_rfl) (by kernel_rfl) (by kernel_rfl) (by kernel_rfl))
    ⟨_, WideRow.started_initial, quiet _⟩
    (fun os started _ H enc _ => liftedF os started H enc)
end Go.Proofs.Qxb6604447aGreatFmt
