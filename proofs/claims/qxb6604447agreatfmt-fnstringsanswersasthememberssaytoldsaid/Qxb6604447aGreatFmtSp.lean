/-
  The walks of next and skipSpace.
-/
import Derived.Test.Qxb6604447aGreatFmtRd
namespace Go.Proofs.Qxb6604447aGreatFmt
set_option maxRecDepth 1000000
open Go.RowKit Go.Lib

theorem at_yes {R g : Nat} {L : List UInt8} {cap pos : Nat} {bv : Value} {bs : List UInt8} (c : UInt8) (W : World) (h : Rd R g L cap pos bv bs W) (hc : L[pos]? = some c) :
    Calls Tryz.prog 22 #[.pointer (some ⟨R, 0, none⟩), .int .u8 (c.toNat : Int)] W fun e W' => e = .returned (.bool true) ∧ Rd R g L cap pos bv bs W' ∧ St R bv W bv W' := by
  refine (atW (c.toNat : Int) W h).mono ?_
  rintro e W' ⟨rfl, n, rfl⟩
  exact ⟨by simp [hc], h.drewN n, (St.refl _ _ _).drewN n⟩
theorem at_no {R g : Nat} {L : List UInt8} {cap pos : Nat} {bv : Value} {bs : List UInt8} (c : UInt8) (W : World) (h : Rd R g L cap pos bv bs W) (hc : L[pos]? ≠ some c) :
    Calls Tryz.prog 22 #[.pointer (some ⟨R, 0, none⟩), .int .u8 (c.toNat : Int)] W fun e W' => e = .returned (.bool false) ∧ Rd R g L cap pos bv bs W' ∧ St R bv W bv W' := by
  refine (atW (c.toNat : Int) W h).mono ?_
  rintro e W' ⟨rfl, n, rfl⟩
  refine ⟨?_, h.drewN n, (St.refl _ _ _).drewN n⟩
  cases hx : L[pos]? with
  | none => rfl
  | some x =>
    have : ¬ x.toNat = c.toNat := fun e => hc (by rw [hx, UInt8.toNat_inj.1 e])
    simp
    omega

set_option maxHeartbeats 1000000 in
theorem next_yes {R g : Nat} {L : List UInt8} {cap pos : Nat} {bv : Value} {bs : List UInt8} (c : UInt8) (W : World) (h : Rd R g L cap pos bv bs W) (hc : L[pos]? = some c) :
    Calls Tryz.prog 38 #[.pointer (some ⟨R, 0, none⟩), .int .u8 (c.toNat : Int)] W fun e W' => e = .returned (.bool true) ∧ Rd R g L cap (pos + 1) bv bs W' ∧ St R bv W bv W' := by
  have HR : Aside (Rd R g L cap pos bv bs W) := h
  have hlt : pos < L.length := (List.getElem?_eq_some_iff.1 hc).1
  have hlen := h.hlen
  have HC : Aside (L[pos]? = some c) := hc
  clear h hc
  go_enter Tryz.func38, Tryz.ntmps38
  go_wp2_with fail
  refine (at_yes c W HR.out HC.out).mono ?_
  rintro e W1 ⟨rfl, h1, s1⟩
  have c1 := h1.c1
  have fz := h1.fz 1
  have H1 : Aside (Rd R g L cap pos bv bs W1) := h1
  have S1 : Aside (St R bv W bv W1) := s1
  clear h1 s1
  go_wp2
  go_ret
  exact ⟨rfl, H1.out.move (pos + 1) (by omega), S1.out.setR _ _⟩
set_option maxHeartbeats 1000000 in
theorem next_no {R g : Nat} {L : List UInt8} {cap pos : Nat} {bv : Value} {bs : List UInt8} (c : UInt8) (W : World) (h : Rd R g L cap pos bv bs W) (hc : L[pos]? ≠ some c) :
    Calls Tryz.prog 38 #[.pointer (some ⟨R, 0, none⟩), .int .u8 (c.toNat : Int)] W fun e W' => e = .returned (.bool false) ∧ Rd R g L cap pos bv bs W' ∧ St R bv W bv W' := by
  have HR : Aside (Rd R g L cap pos bv bs W) := h
  have HC : Aside (L[pos]? ≠ some c) := hc
  clear h hc
  go_enter Tryz.func38, Tryz.ntmps38
  go_wp2_with fail
  refine (at_no c W HR.out HC.out).mono ?_
  rintro e W1 ⟨rfl, h1, s1⟩
  go_wp2
  go_ret
  exact ⟨rfl, h1, s1⟩

/-- White space, as skipSpace reads it. -/
def isSp (x : UInt8) : Bool := x.toNat == 32 || x.toNat == 9 || x.toNat == 10 || x.toNat == 13
/-- How many white bytes stand at the head. -/
def nsp : List UInt8 → Nat
  | [] => 0
  | x :: l => if isSp x then 1 + nsp l else 0
theorem nsp_le : ∀ l, nsp l ≤ l.length
  | [] => Nat.le_refl _
  | x :: l => by have := nsp_le l; simp only [nsp, List.length_cons]; split <;> omega

set_option maxHeartbeats 2000000 in
theorem skipSpace {R g : Nat} {L : List UInt8} {cap pos : Nat} {bv : Value} {bs : List UInt8} (W : World) (h : Rd R g L cap pos bv bs W) :
    Calls Tryz.prog 21 #[.pointer (some ⟨R, 0, none⟩)] W fun e W' => e = .returned (.tuple #[]) ∧ Rd R g L cap (pos + nsp (L.drop pos)) bv bs W' ∧ St R bv W bv W' := by
  obtain ⟨E, hE⟩ : ∃ E, pos + nsp (L.drop pos) = E := ⟨_, rfl⟩
  rw [hE]
  have HR : Aside (Rd R g L cap pos bv bs W) := h
  have HE : Aside (pos + nsp (L.drop pos) = E) := hE
  have hlen := h.hlen
  have hps := h.hpos
  have hcp := h.hcap
  clear h hE
  go_enter Tryz.func21, Tryz.ntmps21
  go_wp2
  go_loopg [] (L.length - pos) (fun g' wx => ∃ p : Nat, g' + p = L.length ∧ Rd R g L cap p bv bs wx ∧ St R bv W bv wx ∧ p + nsp (L.drop p) = E)
  case atStart => exact ⟨pos, by omega, HR.out, St.refl _ _ _, HE.out⟩
  case round =>
    obtain ⟨p, hgp, h1, s1, hinv⟩ := hrel
    have c0 := h1.c0
    have c1 := h1.c1
    have fz := h1.fz 1
    have H1 : Aside (Rd R g L cap p bv bs wr) := h1
    have S1 : Aside (St R bv W bv wr) := s1
    have HI : Aside (p + nsp (L.drop p) = E) := hinv
    clear s1 hinv
    by_cases hp : p < L.length
    · obtain ⟨x, hx⟩ : ∃ x, L[p]? = some x := ⟨_, List.getElem?_eq_getElem hp⟩
      have cx := h1.dat.cell hx
      have HX : Aside (L.drop p = x :: L.drop (p + 1)) := Lib.drop_at hx
      have hp' : (p : Int) < (L.length : Int) := by omega
      clear h1 hx
      by_cases hsp : isSp x = true
      · have hs4 : x.toNat = 32 ∨ x.toNat = 9 ∨ x.toNat = 10 ∨ x.toNat = 13 := by simpa [isSp, or_assoc] using hsp
        have HS : Hid (isSp x = true) := hsp
        clear hsp
        obtain ⟨n, hn⟩ : ∃ n : Int, (x.toNat : Int) = n := ⟨_, rfl⟩
        have hs5 : n = 32 ∨ n = 9 ∨ n = 10 ∨ n = 13 := by omega
        clear hs4
        rcases hs5 with rfl | rfl | rfl | rfl
        all_goals
          go_wp2_with fail
          go_quiet (fail)
          go_wp2_with fail
          go_quiet (fail)
          go_wp2
          go_roundg (gk - 1)
          case measure => omega
          case rel =>
            refine ⟨p + 1, by omega, (H1.out.drewN _).move (p + 1) (by omega), (S1.out.drewN _).setR _ _, ?_⟩
            have := HI.out
            rw [HX.out, nsp, if_pos HS.out] at this
            omega
      · have HS : Hid (¬ isSp x = true) := hsp
        have e32 : ((x.toNat : Int) == 32) = false := by simp [isSp] at hsp; simp; omega
        have e9 : ((x.toNat : Int) == 9) = false := by simp [isSp] at hsp; simp; omega
        have e10 : ((x.toNat : Int) == 10) = false := by simp [isSp] at hsp; simp; omega
        have e13 : ((x.toNat : Int) == 13) = false := by simp [isSp] at hsp; simp; omega
        clear hsp
        go_wp2_with fail
        go_quiet (fail)
        go_wp2_with fail
        go_quiet (fail)
        go_wp2
        (try simp only [Exit.inBlock, Exit.then]); refine bodyPost_ret (results_none rfl _ _ _) rfl ?_
        refine ⟨rfl, ?_, S1.out.drewN _⟩
        have := HI.out
        rw [HX.out, nsp, if_neg HS.out] at this
        have e : p = E := by omega
        rw [← e]; exact H1.out.drewN _
    · have hp' : decide ((p : Int) < (L.length : Int)) = false := by simp; omega
      clear h1
      go_wp2_with fail
      go_quiet (fail)
      go_wp2
      go_end0
      refine ⟨rfl, ?_, S1.out.drewN _⟩
      have := HI.out
      rw [List.drop_eq_nil_of_le (by omega), nsp] at this
      have e : p = E := by omega
      rw [← e]; exact H1.out.drewN _
end Go.Proofs.Qxb6604447aGreatFmt
