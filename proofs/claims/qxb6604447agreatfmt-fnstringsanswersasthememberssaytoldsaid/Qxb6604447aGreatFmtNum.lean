/-
  The walk of numberText at the two numbers that the laws write.
-/
import Derived.Test.Qxb6604447aGreatFmtDig
import Derived.Test.Qxb6604447aGreatFmtArr
namespace Go.Proofs.Qxb6604447aGreatFmt
set_option maxRecDepth 1000000
open Go.RowKit Go.Lib

set_option maxHeartbeats 2000000 in
theorem numText0 {R g : Nat} {L : List UInt8} {cap pos : Nat} {bv : Value} {bs : List UInt8} (W : World) (h : Rd R g L cap pos bv bs W) (c : UInt8) (l : List UInt8) (hc : c = 44 ∨ c = 93 ∨ c = 125) (hd : L.drop pos = 48 :: c :: l) :
    Calls Tryz.prog 40 #[.pointer (some ⟨R, 0, none⟩)] W fun e W' => e = .returned (.bool true) ∧ Rd R g L cap (pos + 1) bv bs W' ∧ St R bv W bv W' := by
  have HR : Aside (Rd R g L cap pos bv bs W) := h
  have HD : Aside (L.drop pos = 48 :: c :: l) := hd
  have HD1 : Aside (L.drop (pos + 1) = c :: l) := drop_next hd
  have HC : Aside (c = 44 ∨ c = 93 ∨ c = 125) := hc
  clear h hd hc
  go_enter Tryz.func40, Tryz.ntmps40
  go_wp2_with fail
  refine (next_no 45 _ HR.out (by rw [drop_get HD.out]; decide)).mono ?_
  rintro e W1 ⟨rfl, h1, s1⟩
  have H1 : Aside (Rd R g L cap pos bv bs W1) := h1
  have S1 : Aside (St R bv W bv W1) := s1
  clear h1 s1
  go_wp2_with fail
  refine (next_yes 48 _ H1.out (drop_get HD.out)).mono ?_
  rintro e W2 ⟨rfl, h2, s2⟩
  have H2 : Aside (Rd R g L cap (pos + 1) bv bs W2) := h2
  have S2 : Aside (St R bv W bv W2) := S1.out.trans s2
  clear h2 s2
  go_wp2_with fail
  refine (next_no 46 _ H2.out (by rw [drop_get HD1.out]; rcases HC.out with rfl | rfl | rfl <;> decide)).mono ?_
  rintro e W3 ⟨rfl, h3, s3⟩
  have H3 : Aside (Rd R g L cap (pos + 1) bv bs W3) := h3
  have S3 : Aside (St R bv W bv W3) := S2.out.trans s3
  clear h3 s3
  go_wp2_with fail
  refine (next_no 101 _ H3.out (by rw [drop_get HD1.out]; rcases HC.out with rfl | rfl | rfl <;> decide)).mono ?_
  rintro e W4 ⟨rfl, h4, s4⟩
  have H4 : Aside (Rd R g L cap (pos + 1) bv bs W4) := h4
  have S4 : Aside (St R bv W bv W4) := S3.out.trans s4
  clear h4 s4
  go_wp2_with fail
  refine (next_no 69 _ H4.out (by rw [drop_get HD1.out]; rcases HC.out with rfl | rfl | rfl <;> decide)).mono ?_
  rintro e W5 ⟨rfl, h5, s5⟩
  have H5 : Aside (Rd R g L cap (pos + 1) bv bs W5) := h5
  have S5 : Aside (St R bv W bv W5) := S4.out.trans s5
  clear h5 s5
  go_wp2
  go_ret
  exact ⟨rfl, H5.out, S5.out⟩

set_option maxHeartbeats 2000000 in
theorem numText12 {R g : Nat} {L : List UInt8} {cap pos : Nat} {bv : Value} {bs : List UInt8} (W : World) (h : Rd R g L cap pos bv bs W) (c : UInt8) (l : List UInt8) (hc : c = 44 ∨ c = 93 ∨ c = 125) (hd : L.drop pos = 45 :: ([49, 50] ++ 46 :: ([53] ++ 101 :: ([49] ++ c :: l)))) :
    Calls Tryz.prog 40 #[.pointer (some ⟨R, 0, none⟩)] W fun e W' => e = .returned (.bool true) ∧ Rd R g L cap (pos + 7) bv bs W' ∧ St R bv W bv W' := by
  have HR : Aside (Rd R g L cap pos bv bs W) := h
  have HD : Aside (L.drop pos = 45 :: ([49, 50] ++ 46 :: ([53] ++ 101 :: ([49] ++ c :: l)))) := hd
  have HD1 : Aside (L.drop (pos + 1) = [49, 50] ++ 46 :: ([53] ++ 101 :: ([49] ++ c :: l))) := drop_next hd
  have HD3 : Aside (L.drop (pos + 1 + 2) = 46 :: ([53] ++ 101 :: ([49] ++ c :: l))) := drop_add HD1.out
  have HD4 : Aside (L.drop (pos + 1 + 2 + 1) = [53] ++ 101 :: ([49] ++ c :: l)) := drop_next HD3.out
  have HD5 : Aside (L.drop (pos + 1 + 2 + 1 + 1) = 101 :: ([49] ++ c :: l)) := drop_add HD4.out
  have HD6 : Aside (L.drop (pos + 1 + 2 + 1 + 1 + 1) = [49] ++ c :: l) := drop_next HD5.out
  have HC : Aside (¬ isDig c) := by
    show ¬ isDig c
    rcases hc with rfl | rfl | rfl <;> (rintro ⟨h1, h2⟩; revert h1 h2; decide)
  clear h hd hc
  go_enter Tryz.func40, Tryz.ntmps40
  go_wp2_with fail
  refine (next_yes 45 _ HR.out (drop_get HD.out)).mono ?_
  rintro e W1 ⟨rfl, h1, s1⟩
  have H1 : Aside (Rd R g L cap (pos + 1) bv bs W1) := h1
  have S1 : Aside (St R bv W bv W1) := s1
  clear h1 s1
  go_wp2_with fail
  refine (next_no 48 _ H1.out (by rw [drop_get HD1.out]; decide)).mono ?_
  rintro e W2 ⟨rfl, h2, s2⟩
  have H2 : Aside (Rd R g L cap (pos + 1) bv bs W2) := h2
  have S2 : Aside (St R bv W bv W2) := S1.out.trans s2
  clear h2 s2
  go_wp2_with fail
  refine (digitsW _ H2.out [49, 50] (by intro x hx; simp at hx; rcases hx with rfl | rfl <;> exact ⟨by decide, by decide⟩) 46 (by rintro ⟨h1, h2⟩; revert h1 h2; decide) _ HD1.out).mono ?_
  rintro e W3 ⟨rfl, h3, s3⟩
  have H3 : Aside (Rd R g L cap (pos + 1 + 2) bv bs W3) := h3
  have S3 : Aside (St R bv W bv W3) := S2.out.trans s3
  clear h3 s3
  go_wp2_with fail
  refine (next_yes 46 _ H3.out (drop_get HD3.out)).mono ?_
  rintro e W4 ⟨rfl, h4, s4⟩
  have H4 : Aside (Rd R g L cap (pos + 1 + 2 + 1) bv bs W4) := h4
  have S4 : Aside (St R bv W bv W4) := S3.out.trans s4
  clear h4 s4
  go_wp2_with fail
  refine (digitsW _ H4.out [53] (by intro x hx; simp at hx; subst hx; exact ⟨by decide, by decide⟩) 101 (by rintro ⟨h1, h2⟩; revert h1 h2; decide) _ HD4.out).mono ?_
  rintro e W5 ⟨rfl, h5, s5⟩
  have H5 : Aside (Rd R g L cap (pos + 1 + 2 + 1 + 1) bv bs W5) := h5
  have S5 : Aside (St R bv W bv W5) := S4.out.trans s5
  clear h5 s5
  go_wp2_with fail
  refine (next_yes 101 _ H5.out (drop_get HD5.out)).mono ?_
  rintro e W6 ⟨rfl, h6, s6⟩
  have H6 : Aside (Rd R g L cap (pos + 1 + 2 + 1 + 1 + 1) bv bs W6) := h6
  have S6 : Aside (St R bv W bv W6) := S5.out.trans s6
  clear h6 s6
  go_wp2_with fail
  refine (next_no 43 _ H6.out (by rw [drop_get HD6.out]; decide)).mono ?_
  rintro e W7 ⟨rfl, h7, s7⟩
  have H7 : Aside (Rd R g L cap (pos + 1 + 2 + 1 + 1 + 1) bv bs W7) := h7
  have S7 : Aside (St R bv W bv W7) := S6.out.trans s7
  clear h7 s7
  go_wp2_with fail
  refine (next_no 45 _ H7.out (by rw [drop_get HD6.out]; decide)).mono ?_
  rintro e W8 ⟨rfl, h8, s8⟩
  have H8 : Aside (Rd R g L cap (pos + 1 + 2 + 1 + 1 + 1) bv bs W8) := h8
  have S8 : Aside (St R bv W bv W8) := S7.out.trans s8
  clear h8 s8
  go_wp2_with fail
  refine (digitsW _ H8.out [49] (by intro x hx; simp at hx; subst hx; exact ⟨by decide, by decide⟩) c HC.out _ HD6.out).mono ?_
  rintro e W9 ⟨rfl, h9, s9⟩
  have H9 : Aside (Rd R g L cap (pos + 7) bv bs W9) := h9
  have S9 : Aside (St R bv W bv W9) := S8.out.trans s9
  clear h9 s9
  go_wp2
  go_ret
  exact ⟨rfl, H9.out, S9.out⟩
end Go.Proofs.Qxb6604447aGreatFmt
