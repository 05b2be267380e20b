/-
  The walk of number, and 'value' at the two numbers that the laws write.
-/
import Derived.Test.Qxb6604447aGreatFmtLit
import Derived.Test.Qxb6604447aGreatFmtNum
import Derived.Test.Qxb6604447aGreatFmtRF
namespace Go.Proofs.Qxb6604447aGreatFmt
set_option maxRecDepth 1000000
open Go.RowKit Go.Lib

set_option maxHeartbeats 2000000 in
theorem numberW (F : Go.Stop.Interp) (word : List UInt8) (hw : 0 < word.length) {R g : Nat} {L : List UInt8} {cap pos : Nat} {bv : Value} {bs : List UInt8} (W : World) (h : Rd R g L cap pos bv bs W) (rest : List UInt8) (hd : L.drop pos = word ++ rest) (hb : Base F R bv W)
    (hnum : Calls Tryz.prog 40 #[.pointer (some ⟨R, 0, none⟩)] W fun e W' => e = .returned (.bool true) ∧ Rd R g L cap (pos + word.length) bv bs W' ∧ St R bv W bv W')
    (hparse : ∀ X, Tb X → Calls Tryz.prog 41 #[.string ⟨word.toArray⟩, .int .i64 64] X fun e W' => (∃ x, e = .returned (.tuple #[.float .f64 x, .nilIface])) ∧ W' = X) :
    Calls Tryz.prog 33 #[.pointer (some ⟨R, 0, none⟩)] W fun e W' => (∃ x, e = .returned (.tuple #[.iface 74 (.float .f64 x), .nilIface])) ∧ Rd R g L cap (pos + word.length) bv bs W' ∧ St R bv W bv W' := by
  have c1 := h.c1
  have hlen := h.hlen
  have hcp := h.hcap
  have hll : pos + word.length ≤ L.length := by
    have := congrArg List.length hd
    rw [List.length_drop, List.length_append] at this
    omega
  have HR : Aside (Rd R g L cap pos bv bs W) := h
  have HD : Aside (L.drop pos = word ++ rest) := hd
  have HB : Aside (Base F R bv W) := hb
  have HN : Aside (Calls Tryz.prog 40 #[.pointer (some ⟨R, 0, none⟩)] W fun e W' => e = .returned (.bool true) ∧ Rd R g L cap (pos + word.length) bv bs W' ∧ St R bv W bv W') := hnum
  have HP : Aside (∀ X, Tb X → Calls Tryz.prog 41 #[.string ⟨word.toArray⟩, .int .i64 64] X fun e W' => (∃ x, e = .returned (.tuple #[.float .f64 x, .nilIface])) ∧ W' = X) := hparse
  obtain ⟨E, hE⟩ : ∃ E, pos + word.length = E := ⟨_, rfl⟩
  have HE : Aside (pos + word.length = E) := hE
  rw [hE] at hll
  have hsm : ∀ wx, (Instr.slice 25 (.slice (some ⟨g, 0, none⟩) L.length cap) (some (.int .i64 (pos : Int))) (some (.int .i64 (E : Int))) none).run Tryz.prog wx = .ok (.slice (some ⟨g, pos, none⟩) (E - pos) (cap - pos)) wx := sl_mid g L.length cap pos E (by omega) (by omega) (by omega)
  rw [hE]
  clear h hd hb hnum hparse hE
  go_enter Tryz.func33, Tryz.ntmps33
  go_wp2_with fail
  refine HN.out.mono ?_
  rw [HE.out]
  rintro e W1 ⟨rfl, h1, s1⟩
  have d0 := h1.c0
  have d1 := h1.c1
  have H1 : Aside (Rd R g L cap E bv bs W1) := h1
  have S1 : Aside (St R bv W bv W1) := s1
  have B1 : Aside (Base F R bv W1) := HB.out.step HR.out.ltR s1
  have hcv : ∀ n, (convert 25 9 (.slice (some ⟨g, pos, none⟩) (E - pos) (cap - pos))).run Tryz.prog (W1.drewN n) = .ok (.string ⟨word.toArray⟩) (W1.drewN n) := fun n =>
    conv_run word (E - pos) (by have := HE.out; omega) g pos (cap - pos) (W1.drewN n) (fun j x hx => drop_cells (h1.drewN n).dat HD.out hx)
  clear h1 s1 c1
  go_wp2_with fail
  go_quiet (fail)
  go_wp2_with fail
  refine (HP.out _ ?_).mono ?_
  · exact B1.out.tabs.keep fun _ _ => rfl
  rintro e w ⟨⟨x, rfl⟩, rfl⟩
  go_wp2
  go_ret2
  exact ⟨⟨x, rfl⟩, H1.out.drewN _, S1.out.drewN _⟩

set_option maxHeartbeats 2000000 in
/-- 'value' at "0". -/
theorem valZero (F : Go.Stop.Interp) (d : Nat) : VC F d [48] true .oth := by
  intro R g L cap pos bv bs W rest h hd hterm hb
  obtain ⟨c, l, rfl, hc⟩ := hterm
  have HR : Aside (Rd R g L cap pos bv bs W) := h
  have HD0 : Aside (L.drop pos = 48 :: (c :: l)) := hd
  have HB : Aside (Base F R bv W) := hb
  have HC : Aside (c = 44 ∨ c = 93 ∨ c = 125) := hc
  have hlt := drop_lt HD0.out
  have hcp := h.hcap
  have hne : ((pos : Int) == (L.length : Int)) = false := by rw [beq_eq_false_iff_ne]; omega
  have hp' : (pos : Int) < (L.length : Int) := by omega
  clear h hd hb hc
  go_enter Tryz.func24, Tryz.ntmps24
  go_wp2_with fail
  refine (skip0 W HR.out HD0.out rfl).mono ?_
  rintro e W1 ⟨rfl, h1, s1⟩
  have c0 := h1.c0
  have c1 := h1.c1
  have x0 : W1.cell? ⟨g, pos, none⟩ = some (.int .u8 48) := head_cell (x := 48) h1.dat HD0.out
  have H1 : Aside (Rd R g L cap pos bv bs W1) := h1
  have S1 : Aside (St R bv W bv W1) := s1
  clear h1 s1
  go_wp2_with fail
  go_quiet (fail)
  go_wp2_with fail
  go_quiet (fail)
  go_wp2_with fail
  refine (numberW F [48] (by decide) _ (H1.out.drewN _) (c :: l) HD0.out (HB.out.step HR.out.ltR (S1.out.drewN _)) (numText0 _ (H1.out.drewN _) c l HC.out HD0.out) (fun X hX => parse0 X hX.opt)).mono ?_
  rintro e W2 ⟨⟨x, rfl⟩, h2, s2⟩
  have H2 : Aside (Rd R g L cap (pos + 1) bv bs W2) := h2
  have S2 : Aside (St R bv W bv W2) := (S1.out.drewN _).trans s2
  clear h2 s2
  go_wp2
  go_ret2
  exact Or.inl ⟨rfl, _, rfl, _, _, H2.out, S2.out, Or.inr (Or.inr (Or.inl ⟨_, rfl⟩)), fun b e => by cases e⟩

set_option maxHeartbeats 2000000 in
/-- 'value' at "-12.5e1". -/
theorem valNum (F : Go.Stop.Interp) (d : Nat) : VC F d [45, 49, 50, 46, 53, 101, 49] true .oth := by
  intro R g L cap pos bv bs W rest h hd hterm hb
  obtain ⟨c, l, rfl, hc⟩ := hterm
  have HR : Aside (Rd R g L cap pos bv bs W) := h
  have HD0 : Aside (L.drop pos = 45 :: ([49, 50] ++ 46 :: ([53] ++ 101 :: ([49] ++ c :: l)))) := hd
  have HB : Aside (Base F R bv W) := hb
  have HC : Aside (c = 44 ∨ c = 93 ∨ c = 125) := hc
  have hlt := drop_lt HD0.out
  have hcp := h.hcap
  have hne : ((pos : Int) == (L.length : Int)) = false := by rw [beq_eq_false_iff_ne]; omega
  have hp' : (pos : Int) < (L.length : Int) := by omega
  clear h hd hb hc
  go_enter Tryz.func24, Tryz.ntmps24
  go_wp2_with fail
  refine (skip0 W HR.out HD0.out rfl).mono ?_
  rintro e W1 ⟨rfl, h1, s1⟩
  have c0 := h1.c0
  have c1 := h1.c1
  have x0 : W1.cell? ⟨g, pos, none⟩ = some (.int .u8 45) := head_cell (x := 45) h1.dat HD0.out
  have H1 : Aside (Rd R g L cap pos bv bs W1) := h1
  have S1 : Aside (St R bv W bv W1) := s1
  clear h1 s1
  go_wp2_with fail
  go_quiet (fail)
  go_wp2_with fail
  go_quiet (fail)
  go_wp2_with fail
  refine (numberW F [45, 49, 50, 46, 53, 101, 49] (by decide) _ (H1.out.drewN _) (c :: l) HD0.out (HB.out.step HR.out.ltR (S1.out.drewN _)) (numText12 _ (H1.out.drewN _) c l HC.out HD0.out) (fun X hX => parse12 X hX.opt hX.inf)).mono ?_
  rintro e W2 ⟨⟨x, rfl⟩, h2, s2⟩
  have H2 : Aside (Rd R g L cap (pos + 7) bv bs W2) := h2
  have S2 : Aside (St R bv W bv W2) := (S1.out.drewN _).trans s2
  clear h2 s2
  go_wp2
  go_ret2
  exact Or.inl ⟨rfl, _, rfl, _, _, H2.out, S2.out, Or.inr (Or.inr (Or.inl ⟨_, rfl⟩)), fun b e => by cases e⟩
end Go.Proofs.Qxb6604447aGreatFmt
