/-
  The walk of digits.
-/
import Derived.Test.Qxb6604447aGreatFmtVal
namespace Go.Proofs.Qxb6604447aGreatFmt
set_option maxRecDepth 1000000
open Go.RowKit Go.Lib

def isDig (x : UInt8) : Prop := 48 ≤ x.toNat ∧ x.toNat ≤ 57

theorem ret_i64 {a b : Int} (h : a = b) : Ending.returned (.int .i64 a) = .returned (.int .i64 b) := by rw [h]
set_option maxHeartbeats 4000000 in
theorem digitsW {R g : Nat} {L : List UInt8} {cap pos : Nat} {bv : Value} {bs : List UInt8} (W : World) (h : Rd R g L cap pos bv bs W) (ds : List UInt8) (hds : ∀ x ∈ ds, isDig x) (c : UInt8) (hc : ¬ isDig c) (l : List UInt8) (hd : L.drop pos = ds ++ c :: l) :
    Calls Tryz.prog 49 #[.pointer (some ⟨R, 0, none⟩)] W fun e W' => e = .returned (.int .i64 (ds.length : Int)) ∧ Rd R g L cap (pos + ds.length) bv bs W' ∧ St R bv W bv W' := by
  have c1 := h.c1
  have hlen := h.hlen
  have hcp := h.hcap
  have HR : Aside (Rd R g L cap pos bv bs W) := h
  have HD : Aside (L.drop pos = ds ++ c :: l) := hd
  have HDS : Aside (∀ x ∈ ds, isDig x) := hds
  have HC : Aside (¬ isDig c) := hc
  clear h hd hds hc
  go_enter Tryz.func49, Tryz.ntmps49
  go_wp2_with fail
  go_loopg [] ds.length (fun m wx => ∃ (a b : List UInt8), ds = a ++ b ∧ m = b.length ∧ L.drop (pos + a.length) = b ++ c :: l ∧ Rd R g L cap (pos + a.length) bv bs wx ∧ St R bv W bv wx)
  case atStart => exact ⟨[], ds, rfl, rfl, HD.out, HR.out, St.refl _ _ _⟩
  case round =>
    obtain ⟨a, b, hab, hm, hdr, h1, s1⟩ := hrel
    obtain ⟨p, hp⟩ : ∃ p, pos + a.length = p := ⟨_, rfl⟩
    rw [hp] at hdr h1
    have d0 := h1.c0
    have d1 := h1.c1
    have e1 := h1.fz 1
    have H1 : Aside (Rd R g L cap p bv bs wr) := h1
    have S1 : Aside (St R bv W bv wr) := s1
    have HP : Aside (pos + a.length = p) := hp
    have HAB : Aside (ds = a ++ b) := hab
    cases b with
    | nil =>
      have hlt := drop_lt (show L.drop p = c :: l from hdr)
      have x0 : wr.cell? ⟨g, p, none⟩ = some (.int .u8 (c.toNat : Int)) := head_cell h1.dat (show L.drop p = c :: l from hdr)
      have hp' : (p : Int) < (L.length : Int) := by omega
      have hca : ¬ (48 ≤ c.toNat ∧ c.toNat ≤ 57) := HC.out
      obtain ⟨n, hn⟩ : ∃ n : Int, (c.toNat : Int) = n := ⟨_, rfl⟩
      rw [hn] at x0
      have hsum : ds.length = a.length := by rw [hab]; simp
      have HSM : Aside (ds.length = a.length) := hsum
      have hwr : IntKind.i64.wrap ((p : Int) - (pos : Int)) = (p : Int) - (pos : Int) := by rw [IntKind.wrap_i64]; omega
      by_cases h48 : (48 : Int) ≤ n
      · have h57 : ¬ n ≤ 57 := by omega
        clear hdr h1 s1 hab hm hca hn hsum hp
        go_wp2_with fail
        go_quiet (fail)
        go_wp2
        go_ret
        have e2 := HSM.out
        have e3 := HP.out
        refine ⟨ret_i64 (by omega), ?_, S1.out.drewN _⟩
        rw [e2, e3]; exact H1.out.drewN _
      · have h48' : decide ((48 : Int) ≤ n) = false := decide_eq_false h48
        clear hdr h1 s1 hab hm hca hn hsum hp h48
        go_wp2_with fail
        go_quiet (fail)
        go_wp2
        go_ret
        have e2 := HSM.out
        have e3 := HP.out
        refine ⟨ret_i64 (by omega), ?_, S1.out.drewN _⟩
        rw [e2, e3]; exact H1.out.drewN _
    | cons x b =>
      have hlt := drop_lt (show L.drop p = x :: (b ++ c :: l) from hdr)
      have x0 : wr.cell? ⟨g, p, none⟩ = some (.int .u8 (x.toNat : Int)) := head_cell h1.dat (show L.drop p = x :: (b ++ c :: l) from hdr)
      have HDR : Aside (L.drop p = x :: (b ++ c :: l)) := hdr
      have hp' : (p : Int) < (L.length : Int) := by omega
      have hxd : isDig x := HDS.out x (by rw [hab]; simp)
      obtain ⟨n, hn⟩ : ∃ n : Int, (x.toNat : Int) = n := ⟨_, rfl⟩
      rw [hn] at x0
      have h48 : (48 : Int) ≤ n := by have := hxd.1; omega
      have h57 : n ≤ 57 := by have := hxd.2; omega
      have HM : Aside (gk = (x :: b).length) := hm
      clear hdr h1 s1 hab hm hxd hn hp
      go_wp2_with fail
      go_quiet (fail)
      go_wp2
      go_roundg (gk - 1)
      case measure =>
        have := HM.out
        rw [List.length_cons] at this
        omega
      case rel =>
        have e3 := HP.out
        have e4 : pos + (a ++ [x]).length = p + 1 := by simp; omega
        refine ⟨a ++ [x], b, ?_, ?_, ?_, ?_, (S1.out.drewN _).setR _ _⟩
        · rw [HAB.out]; simp
        · have := HM.out
          rw [List.length_cons] at this
          omega
        · rw [e4]; exact drop_next HDR.out
        · rw [e4]; exact (H1.out.drewN _).move (p + 1) (by omega)
end Go.Proofs.Qxb6604447aGreatFmt
