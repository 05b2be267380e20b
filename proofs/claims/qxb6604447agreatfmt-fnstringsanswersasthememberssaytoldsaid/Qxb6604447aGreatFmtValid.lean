/-
  The walk of zzValidUTF8: it answers 'valid'.
-/
import Derived.Test.Qxb6604447aGreatFmtPlain
import Derived.Test.Qxb6604447aGreatFmtRd
namespace Go.Proofs.Qxb6604447aGreatFmt
set_option maxRecDepth 1000000
open Go.RowKit Go.Lib

theorem ret_bool {a b : Bool} (h : a = b) : Ending.returned (.bool a) = .returned (.bool b) := by rw [h]
/-- The bytes behind a head of class (n, lo, hi) make a rune. -/
def okc (n lo hi : Nat) (r : List UInt8) : Prop := n ≤ r.length ∧ lo ≤ (r.getD 0 0).toNat ∧ (r.getD 0 0).toNat ≤ hi ∧ (n < 2 ∨ (128 ≤ (r.getD 1 0).toNat ∧ (r.getD 1 0).toNat ≤ 191)) ∧ (n < 3 ∨ (128 ≤ (r.getD 2 0).toNat ∧ (r.getD 2 0).toNat ≤ 191))
theorem dec_bad1 {c : UInt8} {r : List UInt8} (h1 : 128 ≤ c.toNat) (h2 : c.toNat ≤ 193) : (dec (c :: r)).2 = 1 := by
  unfold dec Lib.decodeN
  simp only [List.length_cons, List.getD_cons_zero, List.getD_cons_succ]
  repeat' split
  all_goals (simp only; try omega)
theorem dec_a {c : UInt8} {r : List UInt8} (h1 : 194 ≤ c.toNat) (h2 : c.toNat ≤ 223) (h : okc 1 128 191 r) : (dec (c :: r)).2 = 2 := by
  unfold okc at h
  unfold dec Lib.decodeN
  simp only [List.length_cons, List.getD_cons_zero, List.getD_cons_succ]
  repeat' split
  all_goals (simp only; try omega)
theorem dec_a_no {c : UInt8} {r : List UInt8} (h1 : 194 ≤ c.toNat) (h2 : c.toNat ≤ 223) (h : ¬ okc 1 128 191 r) : (dec (c :: r)).2 = 1 := by
  unfold okc at h
  unfold dec Lib.decodeN
  simp only [List.length_cons, List.getD_cons_zero, List.getD_cons_succ]
  repeat' split
  all_goals (simp only; try omega)
theorem dec_b {c : UInt8} {r : List UInt8} (h1 : 224 ≤ c.toNat) (h2 : c.toNat ≤ 224) (h : okc 2 160 191 r) : (dec (c :: r)).2 = 3 := by
  unfold okc at h
  unfold dec Lib.decodeN
  simp only [List.length_cons, List.getD_cons_zero, List.getD_cons_succ]
  repeat' split
  all_goals (simp only; try omega)
theorem dec_b_no {c : UInt8} {r : List UInt8} (h1 : 224 ≤ c.toNat) (h2 : c.toNat ≤ 224) (h : ¬ okc 2 160 191 r) : (dec (c :: r)).2 = 1 := by
  unfold okc at h
  unfold dec Lib.decodeN
  simp only [List.length_cons, List.getD_cons_zero, List.getD_cons_succ]
  repeat' split
  all_goals (simp only; try omega)
theorem dec_c1 {c : UInt8} {r : List UInt8} (h1 : 225 ≤ c.toNat) (h2 : c.toNat ≤ 236) (h : okc 2 128 191 r) : (dec (c :: r)).2 = 3 := by
  unfold okc at h
  unfold dec Lib.decodeN
  simp only [List.length_cons, List.getD_cons_zero, List.getD_cons_succ]
  repeat' split
  all_goals (simp only; try omega)
theorem dec_c1_no {c : UInt8} {r : List UInt8} (h1 : 225 ≤ c.toNat) (h2 : c.toNat ≤ 236) (h : ¬ okc 2 128 191 r) : (dec (c :: r)).2 = 1 := by
  unfold okc at h
  unfold dec Lib.decodeN
  simp only [List.length_cons, List.getD_cons_zero, List.getD_cons_succ]
  repeat' split
  all_goals (simp only; try omega)
theorem dec_d {c : UInt8} {r : List UInt8} (h1 : 237 ≤ c.toNat) (h2 : c.toNat ≤ 237) (h : okc 2 128 159 r) : (dec (c :: r)).2 = 3 := by
  unfold okc at h
  unfold dec Lib.decodeN
  simp only [List.length_cons, List.getD_cons_zero, List.getD_cons_succ]
  repeat' split
  all_goals (simp only; try omega)
theorem dec_d_no {c : UInt8} {r : List UInt8} (h1 : 237 ≤ c.toNat) (h2 : c.toNat ≤ 237) (h : ¬ okc 2 128 159 r) : (dec (c :: r)).2 = 1 := by
  unfold okc at h
  unfold dec Lib.decodeN
  simp only [List.length_cons, List.getD_cons_zero, List.getD_cons_succ]
  repeat' split
  all_goals (simp only; try omega)
theorem dec_c2 {c : UInt8} {r : List UInt8} (h1 : 238 ≤ c.toNat) (h2 : c.toNat ≤ 238) (h : okc 2 128 191 r) : (dec (c :: r)).2 = 3 := by
  unfold okc at h
  unfold dec Lib.decodeN
  simp only [List.length_cons, List.getD_cons_zero, List.getD_cons_succ]
  repeat' split
  all_goals (simp only; try omega)
theorem dec_c2_no {c : UInt8} {r : List UInt8} (h1 : 238 ≤ c.toNat) (h2 : c.toNat ≤ 238) (h : ¬ okc 2 128 191 r) : (dec (c :: r)).2 = 1 := by
  unfold okc at h
  unfold dec Lib.decodeN
  simp only [List.length_cons, List.getD_cons_zero, List.getD_cons_succ]
  repeat' split
  all_goals (simp only; try omega)
theorem dec_c3 {c : UInt8} {r : List UInt8} (h1 : 239 ≤ c.toNat) (h2 : c.toNat ≤ 239) (h : okc 2 128 191 r) : (dec (c :: r)).2 = 3 := by
  unfold okc at h
  unfold dec Lib.decodeN
  simp only [List.length_cons, List.getD_cons_zero, List.getD_cons_succ]
  repeat' split
  all_goals (simp only; try omega)
theorem dec_c3_no {c : UInt8} {r : List UInt8} (h1 : 239 ≤ c.toNat) (h2 : c.toNat ≤ 239) (h : ¬ okc 2 128 191 r) : (dec (c :: r)).2 = 1 := by
  unfold okc at h
  unfold dec Lib.decodeN
  simp only [List.length_cons, List.getD_cons_zero, List.getD_cons_succ]
  repeat' split
  all_goals (simp only; try omega)
theorem dec_e {c : UInt8} {r : List UInt8} (h1 : 240 ≤ c.toNat) (h2 : c.toNat ≤ 240) (h : okc 3 144 191 r) : (dec (c :: r)).2 = 4 := by
  unfold okc at h
  unfold dec Lib.decodeN
  simp only [List.length_cons, List.getD_cons_zero, List.getD_cons_succ]
  repeat' split
  all_goals (simp only; try omega)
theorem dec_e_no {c : UInt8} {r : List UInt8} (h1 : 240 ≤ c.toNat) (h2 : c.toNat ≤ 240) (h : ¬ okc 3 144 191 r) : (dec (c :: r)).2 = 1 := by
  unfold okc at h
  unfold dec Lib.decodeN
  simp only [List.length_cons, List.getD_cons_zero, List.getD_cons_succ]
  repeat' split
  all_goals (simp only; try omega)
theorem dec_f {c : UInt8} {r : List UInt8} (h1 : 241 ≤ c.toNat) (h2 : c.toNat ≤ 243) (h : okc 3 128 191 r) : (dec (c :: r)).2 = 4 := by
  unfold okc at h
  unfold dec Lib.decodeN
  simp only [List.length_cons, List.getD_cons_zero, List.getD_cons_succ]
  repeat' split
  all_goals (simp only; try omega)
theorem dec_f_no {c : UInt8} {r : List UInt8} (h1 : 241 ≤ c.toNat) (h2 : c.toNat ≤ 243) (h : ¬ okc 3 128 191 r) : (dec (c :: r)).2 = 1 := by
  unfold okc at h
  unfold dec Lib.decodeN
  simp only [List.length_cons, List.getD_cons_zero, List.getD_cons_succ]
  repeat' split
  all_goals (simp only; try omega)
theorem dec_g {c : UInt8} {r : List UInt8} (h1 : 244 ≤ c.toNat) (h2 : c.toNat ≤ 244) (h : okc 3 128 143 r) : (dec (c :: r)).2 = 4 := by
  unfold okc at h
  unfold dec Lib.decodeN
  simp only [List.length_cons, List.getD_cons_zero, List.getD_cons_succ]
  repeat' split
  all_goals (simp only; try omega)
theorem dec_g_no {c : UInt8} {r : List UInt8} (h1 : 244 ≤ c.toNat) (h2 : c.toNat ≤ 244) (h : ¬ okc 3 128 143 r) : (dec (c :: r)).2 = 1 := by
  unfold okc at h
  unfold dec Lib.decodeN
  simp only [List.length_cons, List.getD_cons_zero, List.getD_cons_succ]
  repeat' split
  all_goals (simp only; try omega)
theorem dec_bad2 {c : UInt8} {r : List UInt8} (h1 : 245 ≤ c.toNat) (h2 : c.toNat ≤ 255) : (dec (c :: r)).2 = 1 := by
  unfold dec Lib.decodeN
  simp only [List.length_cons, List.getD_cons_zero, List.getD_cons_succ]
  repeat' split
  all_goals (simp only; try omega)

set_option maxHeartbeats 8000000 in
theorem validW (s : ByteArray) (w : World) (hs : s.size ≤ 4294967281) :
    Calls Tryz.prog 19 #[.string s] w fun e w' => e = .returned (.bool (valid s.data.toList)) ∧ w' = w := by
  obtain ⟨V, hV⟩ : ∃ V, valid s.data.toList = V := ⟨_, rfl⟩
  rw [hV]
  have HV : Hid (valid s.data.toList = V) := hV
  clear hV
  go_enter Tryz.func19, Tryz.ntmps19
  go_wp2_with fail
  go_loopg [3] s.size (fun g s3 wx => w = wx ∧ ∃ i : Nat, g + i = s.size ∧ s3 = .int .i64 i ∧ valid (s.data.toList.drop i) = V)
  case atStart => exact ⟨rfl, 0, by omega, rfl, HV.out⟩
  case round =>
    obtain ⟨rfl, i, hgi, rfl, hinv⟩ := hrel
    have HI : Aside (valid (s.data.toList.drop i) = V) := hinv
    clear hinv
    by_cases hi : i < s.size
    · have hi' : (i : Int) < (s.size : Int) := by omega
      obtain ⟨x, hx⟩ : ∃ x : UInt8, s[i]'(by omega) = x := ⟨_, rfl⟩
      have hxl : s.data.toList[i]? = some x := by rw [← hx]; exact Lib.data_getElem? s i (by omega)
      obtain ⟨r, hr⟩ : ∃ r, s.data.toList.drop (i + 1) = r := ⟨_, rfl⟩
      have HD : Aside (s.data.toList.drop i = x :: r) := by rw [← hr]; exact Lib.drop_at hxl
      have hrl : r.length = s.size - (i + 1) := by rw [← hr, List.length_drop, ← Lib.size_eq]
      have HG : Aside (∀ (k : Nat) (h : i + 1 + k < s.size), (r.getD k 0) = s[i + 1 + k]'h) := by
        intro k h
        rw [← hr, List.getD, List.getElem?_drop, Lib.data_getElem? s _ h]; rfl
      have hx256 := x.toNat_lt
      clear hxl hr
      by_cases hx128 : x.toNat < 128
      · have h1 : (x.toNat : Int) < 128 := by omega
        have HX : Hid (x.toNat < 128) := hx128
        clear hx128
        go_wp2
        go_roundg (gk - 1)
        case measure => omega
        case rel =>
          refine ⟨rfl, i + 1, by omega, by go_num, ?_⟩
          have := HI.out
          rw [HD.out, valid_ascii HX.out] at this
          have e : s.data.toList.drop (i + 1) = r := by
            have := HD.out
            rw [← List.drop_drop, this]; rfl
          rw [e]; exact this
      · have h1 : ¬ (x.toNat : Int) < 128 := by omega
        have H128 : Hid (¬ x.toNat < 128) := hx128
        by_cases q0 : x.toNat ≤ 193
        · have ha : (128 : Int) ≤ (x.toNat : Int) := by omega
          have hb : (x.toNat : Int) ≤ 193 := by omega
          have e224 : ((x.toNat : Int) == 224) = false := by simp; omega
          have e238 : ((x.toNat : Int) == 238) = false := by simp; omega
          have e239 : ((x.toNat : Int) == 239) = false := by simp; omega
          have e237 : ((x.toNat : Int) == 237) = false := by simp; omega
          have e240 : ((x.toNat : Int) == 240) = false := by simp; omega
          have e244 : ((x.toNat : Int) == 244) = false := by simp; omega
          have HA : Aside (128 ≤ x.toNat ∧ x.toNat ≤ 193) := ⟨by omega, by omega⟩
          go_wp2
          go_ret
          refine ⟨ret_bool ?_, rfl⟩
          have := HI.out
          rw [HD.out, valid_bad H128.out (dec_bad1 HA.out.1 HA.out.2)] at this
          exact this
        · skip
          by_cases q1 : x.toNat ≤ 223
          · have ha : (194 : Int) ≤ (x.toNat : Int) := by omega
            have hb : (x.toNat : Int) ≤ 223 := by omega
            have e224 : ((x.toNat : Int) == 224) = false := by simp; omega
            have e238 : ((x.toNat : Int) == 238) = false := by simp; omega
            have e239 : ((x.toNat : Int) == 239) = false := by simp; omega
            have e237 : ((x.toNat : Int) == 237) = false := by simp; omega
            have e240 : ((x.toNat : Int) == 240) = false := by simp; omega
            have e244 : ((x.toNat : Int) == 244) = false := by simp; omega
            have HA : Aside (194 ≤ x.toNat ∧ x.toNat ≤ 223) := ⟨by omega, by omega⟩
            have fin_no : Aside (¬ okc 1 128 191 r → false = V) := fun h => by
              have := HI.out
              rw [HD.out, valid_bad H128.out (dec_a_no HA.out.1 HA.out.2 h)] at this
              exact this
            have fin_yes : Aside (okc 1 128 191 r → valid (s.data.toList.drop (i + 2)) = V) := fun h => by
              have := HI.out
              have hd := dec_a HA.out.1 HA.out.2 h
              rw [HD.out, valid_rune H128.out (by rw [hd]; decide), hd, ← HD.out, List.drop_drop] at this
              exact this
            by_cases hsh : s.size - i ≤ 1
            · have hsh' : (s.size : Int) - (i : Int) ≤ 1 := by omega
              go_wp2
              go_ret
              exact ⟨ret_bool (fin_no.out (fun h => by unfold okc at h; omega)), rfl⟩
            · have hsh' : ¬ (s.size : Int) - (i : Int) ≤ 1 := by omega
              have hi1 : (i : Int) + 1 < (s.size : Int) := by omega
              have htn : ((i : Int) + 1).toNat = i + 1 := by omega
              obtain ⟨y1, hy1⟩ : ∃ y : UInt8, s[i + 1]'(by omega) = y := ⟨_, rfl⟩
              have hg1 : r.getD 0 0 = y1 := by rw [← hy1]; exact HG.out 0 (by omega)
              have HG1 : Aside (r.getD 0 0 = y1) := hg1
              clear hg1
              by_cases hl : y1.toNat < 128
              · have hl' : (y1.toNat : Int) < 128 := by omega
                go_wp2
                go_ret
                exact ⟨ret_bool (fin_no.out (fun h => by unfold okc at h; rw [HG1.out] at h; omega)), rfl⟩
              · have hl' : ¬ (y1.toNat : Int) < 128 := by omega
                by_cases hh : 191 < y1.toNat
                · have hh' : (191 : Int) < (y1.toNat : Int) := by omega
                  go_wp2
                  go_ret
                  exact ⟨ret_bool (fin_no.out (fun h => by unfold okc at h; rw [HG1.out] at h; omega)), rfl⟩
                · have hh' : ¬ (191 : Int) < (y1.toNat : Int) := by omega
                  go_wp2_with fail
                  go_loopg [8] 1 (fun g s8 wx => w = wx ∧ ∃ k : Nat, g + k = 3 ∧ 2 ≤ k ∧ k ≤ 2 ∧ s8 = .int .i64 k ∧ (2 < k → 128 ≤ (r.getD 1 0).toNat ∧ (r.getD 1 0).toNat ≤ 191) ∧ (3 < k → 128 ≤ (r.getD 2 0).toNat ∧ (r.getD 2 0).toNat ≤ 191))
                  case atStart => exact ⟨rfl, 2, by omega, by omega, by omega, rfl, fun h => absurd h (by omega), fun h => absurd h (by omega)⟩
                  case round =>
                    obtain ⟨rfl, k, hgk2, hk2, hkn, rfl, hb2, hb3⟩ := hrel
                    have HB : Aside ((2 < k → 128 ≤ (r.getD 1 0).toNat ∧ (r.getD 1 0).toNat ≤ 191) ∧ (3 < k → 128 ≤ (r.getD 2 0).toNat ∧ (r.getD 2 0).toNat ≤ 191)) := ⟨hb2, hb3⟩
                    clear hb2 hb3
                    by_cases hk : k ≤ 1
                    · have hk' : (k : Int) ≤ 1 := by omega
                      have hik : (i : Int) + (k : Int) < (s.size : Int) := by omega
                      have htk : ((i : Int) + (k : Int)).toNat = i + k := by omega
                      obtain ⟨y, hy⟩ : ∃ y : UInt8, s[i + k]'(by omega) = y := ⟨_, rfl⟩
                      have HY : Aside (r.getD (k - 1) 0 = y) := by
                        show _ = _
                        rw [HG.out (k - 1) (by omega), ← hy]
                        congr 1; omega
                      by_cases ho : y.toNat < 128
                      · have ho' : (y.toNat : Int) < 128 := by omega
                        go_wp2
                        go_ret
                        refine ⟨ret_bool (fin_no.out (fun h => ?_)), rfl⟩
                        unfold okc at h
                        have hy2 := HY.out
                        have hk23 : k = 2 ∨ k = 3 := by omega
                        rcases hk23 with rfl | rfl <;> (simp only [Nat.reduceSub] at hy2; rw [hy2] at h; omega)
                      · have ho' : ¬ (y.toNat : Int) < 128 := by omega
                        by_cases hp : 191 < y.toNat
                        · have hp' : (191 : Int) < (y.toNat : Int) := by omega
                          go_wp2
                          go_ret
                          refine ⟨ret_bool (fin_no.out (fun h => ?_)), rfl⟩
                          unfold okc at h
                          have hy2 := HY.out
                          have hk23 : k = 2 ∨ k = 3 := by omega
                          rcases hk23 with rfl | rfl <;> (simp only [Nat.reduceSub] at hy2; rw [hy2] at h; omega)
                        · have hp' : ¬ (191 : Int) < (y.toNat : Int) := by omega
                          go_wp2
                          go_roundg (gk - 1)
                          case measure => omega
                          case rel =>
                            have hy2 := HY.out
                            have hb := HB.out
                            have hk23 : k = 2 ∨ k = 3 := by omega
                            rcases hk23 with rfl | rfl
                            · simp only [Nat.reduceSub] at hy2
                              exact ⟨rfl, 3, by omega, by omega, by omega, rfl, fun _ => by rw [hy2]; omega, fun h => absurd h (by omega)⟩
                            · simp only [Nat.reduceSub] at hy2
                              exact ⟨rfl, 4, by omega, by omega, by omega, rfl, fun _ => hb.1 (by omega), fun _ => by rw [hy2]; omega⟩
                    · have hk' : ¬ (k : Int) ≤ 1 := by omega
                      obtain rfl : k = 2 := by omega
                      go_wp2
                      go_roundg (s.size - (i + 2))
                      case measure => omega
                      case rel =>
                        refine ⟨rfl, i + 2, by omega, by go_num, fin_yes.out ?_⟩
                        have hb := HB.out
                        unfold okc
                        rw [HG1.out]
                        refine ⟨by omega, by omega, by omega, ?_, ?_⟩
                        · exact Or.inl (by omega)
                        · exact Or.inl (by omega)
          · skip
            by_cases q2 : x.toNat ≤ 224
            · have ha : (224 : Int) ≤ (x.toNat : Int) := by omega
              have hb : (x.toNat : Int) ≤ 224 := by omega
              have e224 : ((x.toNat : Int) == 224) = true := by simp; omega
              have e238 : ((x.toNat : Int) == 238) = false := by simp; omega
              have e239 : ((x.toNat : Int) == 239) = false := by simp; omega
              have e237 : ((x.toNat : Int) == 237) = false := by simp; omega
              have e240 : ((x.toNat : Int) == 240) = false := by simp; omega
              have e244 : ((x.toNat : Int) == 244) = false := by simp; omega
              have HA : Aside (224 ≤ x.toNat ∧ x.toNat ≤ 224) := ⟨by omega, by omega⟩
              have fin_no : Aside (¬ okc 2 160 191 r → false = V) := fun h => by
                have := HI.out
                rw [HD.out, valid_bad H128.out (dec_b_no HA.out.1 HA.out.2 h)] at this
                exact this
              have fin_yes : Aside (okc 2 160 191 r → valid (s.data.toList.drop (i + 3)) = V) := fun h => by
                have := HI.out
                have hd := dec_b HA.out.1 HA.out.2 h
                rw [HD.out, valid_rune H128.out (by rw [hd]; decide), hd, ← HD.out, List.drop_drop] at this
                exact this
              by_cases hsh : s.size - i ≤ 2
              · have hsh' : (s.size : Int) - (i : Int) ≤ 2 := by omega
                go_wp2
                go_ret
                exact ⟨ret_bool (fin_no.out (fun h => by unfold okc at h; omega)), rfl⟩
              · have hsh' : ¬ (s.size : Int) - (i : Int) ≤ 2 := by omega
                have hi1 : (i : Int) + 1 < (s.size : Int) := by omega
                have htn : ((i : Int) + 1).toNat = i + 1 := by omega
                obtain ⟨y1, hy1⟩ : ∃ y : UInt8, s[i + 1]'(by omega) = y := ⟨_, rfl⟩
                have hg1 : r.getD 0 0 = y1 := by rw [← hy1]; exact HG.out 0 (by omega)
                have HG1 : Aside (r.getD 0 0 = y1) := hg1
                clear hg1
                by_cases hl : y1.toNat < 160
                · have hl' : (y1.toNat : Int) < 160 := by omega
                  go_wp2
                  go_ret
                  exact ⟨ret_bool (fin_no.out (fun h => by unfold okc at h; rw [HG1.out] at h; omega)), rfl⟩
                · have hl' : ¬ (y1.toNat : Int) < 160 := by omega
                  by_cases hh : 191 < y1.toNat
                  · have hh' : (191 : Int) < (y1.toNat : Int) := by omega
                    go_wp2
                    go_ret
                    exact ⟨ret_bool (fin_no.out (fun h => by unfold okc at h; rw [HG1.out] at h; omega)), rfl⟩
                  · have hh' : ¬ (191 : Int) < (y1.toNat : Int) := by omega
                    go_wp2_with fail
                    go_loopg [8] 2 (fun g s8 wx => w = wx ∧ ∃ k : Nat, g + k = 4 ∧ 2 ≤ k ∧ k ≤ 3 ∧ s8 = .int .i64 k ∧ (2 < k → 128 ≤ (r.getD 1 0).toNat ∧ (r.getD 1 0).toNat ≤ 191) ∧ (3 < k → 128 ≤ (r.getD 2 0).toNat ∧ (r.getD 2 0).toNat ≤ 191))
                    case atStart => exact ⟨rfl, 2, by omega, by omega, by omega, rfl, fun h => absurd h (by omega), fun h => absurd h (by omega)⟩
                    case round =>
                      obtain ⟨rfl, k, hgk2, hk2, hkn, rfl, hb2, hb3⟩ := hrel
                      have HB : Aside ((2 < k → 128 ≤ (r.getD 1 0).toNat ∧ (r.getD 1 0).toNat ≤ 191) ∧ (3 < k → 128 ≤ (r.getD 2 0).toNat ∧ (r.getD 2 0).toNat ≤ 191)) := ⟨hb2, hb3⟩
                      clear hb2 hb3
                      by_cases hk : k ≤ 2
                      · have hk' : (k : Int) ≤ 2 := by omega
                        have hik : (i : Int) + (k : Int) < (s.size : Int) := by omega
                        have htk : ((i : Int) + (k : Int)).toNat = i + k := by omega
                        obtain ⟨y, hy⟩ : ∃ y : UInt8, s[i + k]'(by omega) = y := ⟨_, rfl⟩
                        have HY : Aside (r.getD (k - 1) 0 = y) := by
                          show _ = _
                          rw [HG.out (k - 1) (by omega), ← hy]
                          congr 1; omega
                        by_cases ho : y.toNat < 128
                        · have ho' : (y.toNat : Int) < 128 := by omega
                          go_wp2
                          go_ret
                          refine ⟨ret_bool (fin_no.out (fun h => ?_)), rfl⟩
                          unfold okc at h
                          have hy2 := HY.out
                          have hk23 : k = 2 ∨ k = 3 := by omega
                          rcases hk23 with rfl | rfl <;> (simp only [Nat.reduceSub] at hy2; rw [hy2] at h; omega)
                        · have ho' : ¬ (y.toNat : Int) < 128 := by omega
                          by_cases hp : 191 < y.toNat
                          · have hp' : (191 : Int) < (y.toNat : Int) := by omega
                            go_wp2
                            go_ret
                            refine ⟨ret_bool (fin_no.out (fun h => ?_)), rfl⟩
                            unfold okc at h
                            have hy2 := HY.out
                            have hk23 : k = 2 ∨ k = 3 := by omega
                            rcases hk23 with rfl | rfl <;> (simp only [Nat.reduceSub] at hy2; rw [hy2] at h; omega)
                          · have hp' : ¬ (191 : Int) < (y.toNat : Int) := by omega
                            go_wp2
                            go_roundg (gk - 1)
                            case measure => omega
                            case rel =>
                              have hy2 := HY.out
                              have hb := HB.out
                              have hk23 : k = 2 ∨ k = 3 := by omega
                              rcases hk23 with rfl | rfl
                              · simp only [Nat.reduceSub] at hy2
                                exact ⟨rfl, 3, by omega, by omega, by omega, rfl, fun _ => by rw [hy2]; omega, fun h => absurd h (by omega)⟩
                              · simp only [Nat.reduceSub] at hy2
                                exact ⟨rfl, 4, by omega, by omega, by omega, rfl, fun _ => hb.1 (by omega), fun _ => by rw [hy2]; omega⟩
                      · have hk' : ¬ (k : Int) ≤ 2 := by omega
                        obtain rfl : k = 3 := by omega
                        go_wp2
                        go_roundg (s.size - (i + 3))
                        case measure => omega
                        case rel =>
                          refine ⟨rfl, i + 3, by omega, by go_num, fin_yes.out ?_⟩
                          have hb := HB.out
                          unfold okc
                          rw [HG1.out]
                          refine ⟨by omega, by omega, by omega, ?_, ?_⟩
                          · exact Or.inr (hb.1 (by omega))
                          · exact Or.inl (by omega)
            · skip
              by_cases q3 : x.toNat ≤ 236
              · have ha : (225 : Int) ≤ (x.toNat : Int) := by omega
                have hb : (x.toNat : Int) ≤ 236 := by omega
                have e224 : ((x.toNat : Int) == 224) = false := by simp; omega
                have e238 : ((x.toNat : Int) == 238) = false := by simp; omega
                have e239 : ((x.toNat : Int) == 239) = false := by simp; omega
                have e237 : ((x.toNat : Int) == 237) = false := by simp; omega
                have e240 : ((x.toNat : Int) == 240) = false := by simp; omega
                have e244 : ((x.toNat : Int) == 244) = false := by simp; omega
                have HA : Aside (225 ≤ x.toNat ∧ x.toNat ≤ 236) := ⟨by omega, by omega⟩
                have fin_no : Aside (¬ okc 2 128 191 r → false = V) := fun h => by
                  have := HI.out
                  rw [HD.out, valid_bad H128.out (dec_c1_no HA.out.1 HA.out.2 h)] at this
                  exact this
                have fin_yes : Aside (okc 2 128 191 r → valid (s.data.toList.drop (i + 3)) = V) := fun h => by
                  have := HI.out
                  have hd := dec_c1 HA.out.1 HA.out.2 h
                  rw [HD.out, valid_rune H128.out (by rw [hd]; decide), hd, ← HD.out, List.drop_drop] at this
                  exact this
                by_cases hsh : s.size - i ≤ 2
                · have hsh' : (s.size : Int) - (i : Int) ≤ 2 := by omega
                  go_wp2
                  go_ret
                  exact ⟨ret_bool (fin_no.out (fun h => by unfold okc at h; omega)), rfl⟩
                · have hsh' : ¬ (s.size : Int) - (i : Int) ≤ 2 := by omega
                  have hi1 : (i : Int) + 1 < (s.size : Int) := by omega
                  have htn : ((i : Int) + 1).toNat = i + 1 := by omega
                  obtain ⟨y1, hy1⟩ : ∃ y : UInt8, s[i + 1]'(by omega) = y := ⟨_, rfl⟩
                  have hg1 : r.getD 0 0 = y1 := by rw [← hy1]; exact HG.out 0 (by omega)
                  have HG1 : Aside (r.getD 0 0 = y1) := hg1
                  clear hg1
                  by_cases hl : y1.toNat < 128
                  · have hl' : (y1.toNat : Int) < 128 := by omega
                    go_wp2
                    go_ret
                    exact ⟨ret_bool (fin_no.out (fun h => by unfold okc at h; rw [HG1.out] at h; omega)), rfl⟩
                  · have hl' : ¬ (y1.toNat : Int) < 128 := by omega
                    by_cases hh : 191 < y1.toNat
                    · have hh' : (191 : Int) < (y1.toNat : Int) := by omega
                      go_wp2
                      go_ret
                      exact ⟨ret_bool (fin_no.out (fun h => by unfold okc at h; rw [HG1.out] at h; omega)), rfl⟩
                    · have hh' : ¬ (191 : Int) < (y1.toNat : Int) := by omega
                      go_wp2_with fail
                      go_loopg [8] 2 (fun g s8 wx => w = wx ∧ ∃ k : Nat, g + k = 4 ∧ 2 ≤ k ∧ k ≤ 3 ∧ s8 = .int .i64 k ∧ (2 < k → 128 ≤ (r.getD 1 0).toNat ∧ (r.getD 1 0).toNat ≤ 191) ∧ (3 < k → 128 ≤ (r.getD 2 0).toNat ∧ (r.getD 2 0).toNat ≤ 191))
                      case atStart => exact ⟨rfl, 2, by omega, by omega, by omega, rfl, fun h => absurd h (by omega), fun h => absurd h (by omega)⟩
                      case round =>
                        obtain ⟨rfl, k, hgk2, hk2, hkn, rfl, hb2, hb3⟩ := hrel
                        have HB : Aside ((2 < k → 128 ≤ (r.getD 1 0).toNat ∧ (r.getD 1 0).toNat ≤ 191) ∧ (3 < k → 128 ≤ (r.getD 2 0).toNat ∧ (r.getD 2 0).toNat ≤ 191)) := ⟨hb2, hb3⟩
                        clear hb2 hb3
                        by_cases hk : k ≤ 2
                        · have hk' : (k : Int) ≤ 2 := by omega
                          have hik : (i : Int) + (k : Int) < (s.size : Int) := by omega
                          have htk : ((i : Int) + (k : Int)).toNat = i + k := by omega
                          obtain ⟨y, hy⟩ : ∃ y : UInt8, s[i + k]'(by omega) = y := ⟨_, rfl⟩
                          have HY : Aside (r.getD (k - 1) 0 = y) := by
                            show _ = _
                            rw [HG.out (k - 1) (by omega), ← hy]
                            congr 1; omega
                          by_cases ho : y.toNat < 128
                          · have ho' : (y.toNat : Int) < 128 := by omega
                            go_wp2
                            go_ret
                            refine ⟨ret_bool (fin_no.out (fun h => ?_)), rfl⟩
                            unfold okc at h
                            have hy2 := HY.out
                            have hk23 : k = 2 ∨ k = 3 := by omega
                            rcases hk23 with rfl | rfl <;> (simp only [Nat.reduceSub] at hy2; rw [hy2] at h; omega)
                          · have ho' : ¬ (y.toNat : Int) < 128 := by omega
                            by_cases hp : 191 < y.toNat
                            · have hp' : (191 : Int) < (y.toNat : Int) := by omega
                              go_wp2
                              go_ret
                              refine ⟨ret_bool (fin_no.out (fun h => ?_)), rfl⟩
                              unfold okc at h
                              have hy2 := HY.out
                              have hk23 : k = 2 ∨ k = 3 := by omega
                              rcases hk23 with rfl | rfl <;> (simp only [Nat.reduceSub] at hy2; rw [hy2] at h; omega)
                            · have hp' : ¬ (191 : Int) < (y.toNat : Int) := by omega
                              go_wp2
                              go_roundg (gk - 1)
                              case measure => omega
                              case rel =>
                                have hy2 := HY.out
                                have hb := HB.out
                                have hk23 : k = 2 ∨ k = 3 := by omega
                                rcases hk23 with rfl | rfl
                                · simp only [Nat.reduceSub] at hy2
                                  exact ⟨rfl, 3, by omega, by omega, by omega, rfl, fun _ => by rw [hy2]; omega, fun h => absurd h (by omega)⟩
                                · simp only [Nat.reduceSub] at hy2
                                  exact ⟨rfl, 4, by omega, by omega, by omega, rfl, fun _ => hb.1 (by omega), fun _ => by rw [hy2]; omega⟩
                        · have hk' : ¬ (k : Int) ≤ 2 := by omega
                          obtain rfl : k = 3 := by omega
                          go_wp2
                          go_roundg (s.size - (i + 3))
                          case measure => omega
                          case rel =>
                            refine ⟨rfl, i + 3, by omega, by go_num, fin_yes.out ?_⟩
                            have hb := HB.out
                            unfold okc
                            rw [HG1.out]
                            refine ⟨by omega, by omega, by omega, ?_, ?_⟩
                            · exact Or.inr (hb.1 (by omega))
                            · exact Or.inl (by omega)
              · skip
                by_cases q4 : x.toNat ≤ 237
                · have ha : (237 : Int) ≤ (x.toNat : Int) := by omega
                  have hb : (x.toNat : Int) ≤ 237 := by omega
                  have e224 : ((x.toNat : Int) == 224) = false := by simp; omega
                  have e238 : ((x.toNat : Int) == 238) = false := by simp; omega
                  have e239 : ((x.toNat : Int) == 239) = false := by simp; omega
                  have e237 : ((x.toNat : Int) == 237) = true := by simp; omega
                  have e240 : ((x.toNat : Int) == 240) = false := by simp; omega
                  have e244 : ((x.toNat : Int) == 244) = false := by simp; omega
                  have HA : Aside (237 ≤ x.toNat ∧ x.toNat ≤ 237) := ⟨by omega, by omega⟩
                  have fin_no : Aside (¬ okc 2 128 159 r → false = V) := fun h => by
                    have := HI.out
                    rw [HD.out, valid_bad H128.out (dec_d_no HA.out.1 HA.out.2 h)] at this
                    exact this
                  have fin_yes : Aside (okc 2 128 159 r → valid (s.data.toList.drop (i + 3)) = V) := fun h => by
                    have := HI.out
                    have hd := dec_d HA.out.1 HA.out.2 h
                    rw [HD.out, valid_rune H128.out (by rw [hd]; decide), hd, ← HD.out, List.drop_drop] at this
                    exact this
                  by_cases hsh : s.size - i ≤ 2
                  · have hsh' : (s.size : Int) - (i : Int) ≤ 2 := by omega
                    go_wp2
                    go_ret
                    exact ⟨ret_bool (fin_no.out (fun h => by unfold okc at h; omega)), rfl⟩
                  · have hsh' : ¬ (s.size : Int) - (i : Int) ≤ 2 := by omega
                    have hi1 : (i : Int) + 1 < (s.size : Int) := by omega
                    have htn : ((i : Int) + 1).toNat = i + 1 := by omega
                    obtain ⟨y1, hy1⟩ : ∃ y : UInt8, s[i + 1]'(by omega) = y := ⟨_, rfl⟩
                    have hg1 : r.getD 0 0 = y1 := by rw [← hy1]; exact HG.out 0 (by omega)
                    have HG1 : Aside (r.getD 0 0 = y1) := hg1
                    clear hg1
                    by_cases hl : y1.toNat < 128
                    · have hl' : (y1.toNat : Int) < 128 := by omega
                      go_wp2
                      go_ret
                      exact ⟨ret_bool (fin_no.out (fun h => by unfold okc at h; rw [HG1.out] at h; omega)), rfl⟩
                    · have hl' : ¬ (y1.toNat : Int) < 128 := by omega
                      by_cases hh : 159 < y1.toNat
                      · have hh' : (159 : Int) < (y1.toNat : Int) := by omega
                        go_wp2
                        go_ret
                        exact ⟨ret_bool (fin_no.out (fun h => by unfold okc at h; rw [HG1.out] at h; omega)), rfl⟩
                      · have hh' : ¬ (159 : Int) < (y1.toNat : Int) := by omega
                        go_wp2_with fail
                        go_loopg [8] 2 (fun g s8 wx => w = wx ∧ ∃ k : Nat, g + k = 4 ∧ 2 ≤ k ∧ k ≤ 3 ∧ s8 = .int .i64 k ∧ (2 < k → 128 ≤ (r.getD 1 0).toNat ∧ (r.getD 1 0).toNat ≤ 191) ∧ (3 < k → 128 ≤ (r.getD 2 0).toNat ∧ (r.getD 2 0).toNat ≤ 191))
                        case atStart => exact ⟨rfl, 2, by omega, by omega, by omega, rfl, fun h => absurd h (by omega), fun h => absurd h (by omega)⟩
                        case round =>
                          obtain ⟨rfl, k, hgk2, hk2, hkn, rfl, hb2, hb3⟩ := hrel
                          have HB : Aside ((2 < k → 128 ≤ (r.getD 1 0).toNat ∧ (r.getD 1 0).toNat ≤ 191) ∧ (3 < k → 128 ≤ (r.getD 2 0).toNat ∧ (r.getD 2 0).toNat ≤ 191)) := ⟨hb2, hb3⟩
                          clear hb2 hb3
                          by_cases hk : k ≤ 2
                          · have hk' : (k : Int) ≤ 2 := by omega
                            have hik : (i : Int) + (k : Int) < (s.size : Int) := by omega
                            have htk : ((i : Int) + (k : Int)).toNat = i + k := by omega
                            obtain ⟨y, hy⟩ : ∃ y : UInt8, s[i + k]'(by omega) = y := ⟨_, rfl⟩
                            have HY : Aside (r.getD (k - 1) 0 = y) := by
                              show _ = _
                              rw [HG.out (k - 1) (by omega), ← hy]
                              congr 1; omega
                            by_cases ho : y.toNat < 128
                            · have ho' : (y.toNat : Int) < 128 := by omega
                              go_wp2
                              go_ret
                              refine ⟨ret_bool (fin_no.out (fun h => ?_)), rfl⟩
                              unfold okc at h
                              have hy2 := HY.out
                              have hk23 : k = 2 ∨ k = 3 := by omega
                              rcases hk23 with rfl | rfl <;> (simp only [Nat.reduceSub] at hy2; rw [hy2] at h; omega)
                            · have ho' : ¬ (y.toNat : Int) < 128 := by omega
                              by_cases hp : 191 < y.toNat
                              · have hp' : (191 : Int) < (y.toNat : Int) := by omega
                                go_wp2
                                go_ret
                                refine ⟨ret_bool (fin_no.out (fun h => ?_)), rfl⟩
                                unfold okc at h
                                have hy2 := HY.out
                                have hk23 : k = 2 ∨ k = 3 := by omega
                                rcases hk23 with rfl | rfl <;> (simp only [Nat.reduceSub] at hy2; rw [hy2] at h; omega)
                              · have hp' : ¬ (191 : Int) < (y.toNat : Int) := by omega
                                go_wp2
                                go_roundg (gk - 1)
                                case measure => omega
                                case rel =>
                                  have hy2 := HY.out
                                  have hb := HB.out
                                  have hk23 : k = 2 ∨ k = 3 := by omega
                                  rcases hk23 with rfl | rfl
                                  · simp only [Nat.reduceSub] at hy2
                                    exact ⟨rfl, 3, by omega, by omega, by omega, rfl, fun _ => by rw [hy2]; omega, fun h => absurd h (by omega)⟩
                                  · simp only [Nat.reduceSub] at hy2
                                    exact ⟨rfl, 4, by omega, by omega, by omega, rfl, fun _ => hb.1 (by omega), fun _ => by rw [hy2]; omega⟩
                          · have hk' : ¬ (k : Int) ≤ 2 := by omega
                            obtain rfl : k = 3 := by omega
                            go_wp2
                            go_roundg (s.size - (i + 3))
                            case measure => omega
                            case rel =>
                              refine ⟨rfl, i + 3, by omega, by go_num, fin_yes.out ?_⟩
                              have hb := HB.out
                              unfold okc
                              rw [HG1.out]
                              refine ⟨by omega, by omega, by omega, ?_, ?_⟩
                              · exact Or.inr (hb.1 (by omega))
                              · exact Or.inl (by omega)
                · skip
                  by_cases q5 : x.toNat ≤ 238
                  · have ha : (238 : Int) ≤ (x.toNat : Int) := by omega
                    have hb : (x.toNat : Int) ≤ 238 := by omega
                    have e224 : ((x.toNat : Int) == 224) = false := by simp; omega
                    have e238 : ((x.toNat : Int) == 238) = true := by simp; omega
                    have e239 : ((x.toNat : Int) == 239) = false := by simp; omega
                    have e237 : ((x.toNat : Int) == 237) = false := by simp; omega
                    have e240 : ((x.toNat : Int) == 240) = false := by simp; omega
                    have e244 : ((x.toNat : Int) == 244) = false := by simp; omega
                    have HA : Aside (238 ≤ x.toNat ∧ x.toNat ≤ 238) := ⟨by omega, by omega⟩
                    have fin_no : Aside (¬ okc 2 128 191 r → false = V) := fun h => by
                      have := HI.out
                      rw [HD.out, valid_bad H128.out (dec_c2_no HA.out.1 HA.out.2 h)] at this
                      exact this
                    have fin_yes : Aside (okc 2 128 191 r → valid (s.data.toList.drop (i + 3)) = V) := fun h => by
                      have := HI.out
                      have hd := dec_c2 HA.out.1 HA.out.2 h
                      rw [HD.out, valid_rune H128.out (by rw [hd]; decide), hd, ← HD.out, List.drop_drop] at this
                      exact this
                    by_cases hsh : s.size - i ≤ 2
                    · have hsh' : (s.size : Int) - (i : Int) ≤ 2 := by omega
                      go_wp2
                      go_ret
                      exact ⟨ret_bool (fin_no.out (fun h => by unfold okc at h; omega)), rfl⟩
                    · have hsh' : ¬ (s.size : Int) - (i : Int) ≤ 2 := by omega
                      have hi1 : (i : Int) + 1 < (s.size : Int) := by omega
                      have htn : ((i : Int) + 1).toNat = i + 1 := by omega
                      obtain ⟨y1, hy1⟩ : ∃ y : UInt8, s[i + 1]'(by omega) = y := ⟨_, rfl⟩
                      have hg1 : r.getD 0 0 = y1 := by rw [← hy1]; exact HG.out 0 (by omega)
                      have HG1 : Aside (r.getD 0 0 = y1) := hg1
                      clear hg1
                      by_cases hl : y1.toNat < 128
                      · have hl' : (y1.toNat : Int) < 128 := by omega
                        go_wp2
                        go_ret
                        exact ⟨ret_bool (fin_no.out (fun h => by unfold okc at h; rw [HG1.out] at h; omega)), rfl⟩
                      · have hl' : ¬ (y1.toNat : Int) < 128 := by omega
                        by_cases hh : 191 < y1.toNat
                        · have hh' : (191 : Int) < (y1.toNat : Int) := by omega
                          go_wp2
                          go_ret
                          exact ⟨ret_bool (fin_no.out (fun h => by unfold okc at h; rw [HG1.out] at h; omega)), rfl⟩
                        · have hh' : ¬ (191 : Int) < (y1.toNat : Int) := by omega
                          go_wp2_with fail
                          go_loopg [8] 2 (fun g s8 wx => w = wx ∧ ∃ k : Nat, g + k = 4 ∧ 2 ≤ k ∧ k ≤ 3 ∧ s8 = .int .i64 k ∧ (2 < k → 128 ≤ (r.getD 1 0).toNat ∧ (r.getD 1 0).toNat ≤ 191) ∧ (3 < k → 128 ≤ (r.getD 2 0).toNat ∧ (r.getD 2 0).toNat ≤ 191))
                          case atStart => exact ⟨rfl, 2, by omega, by omega, by omega, rfl, fun h => absurd h (by omega), fun h => absurd h (by omega)⟩
                          case round =>
                            obtain ⟨rfl, k, hgk2, hk2, hkn, rfl, hb2, hb3⟩ := hrel
                            have HB : Aside ((2 < k → 128 ≤ (r.getD 1 0).toNat ∧ (r.getD 1 0).toNat ≤ 191) ∧ (3 < k → 128 ≤ (r.getD 2 0).toNat ∧ (r.getD 2 0).toNat ≤ 191)) := ⟨hb2, hb3⟩
                            clear hb2 hb3
                            by_cases hk : k ≤ 2
                            · have hk' : (k : Int) ≤ 2 := by omega
                              have hik : (i : Int) + (k : Int) < (s.size : Int) := by omega
                              have htk : ((i : Int) + (k : Int)).toNat = i + k := by omega
                              obtain ⟨y, hy⟩ : ∃ y : UInt8, s[i + k]'(by omega) = y := ⟨_, rfl⟩
                              have HY : Aside (r.getD (k - 1) 0 = y) := by
                                show _ = _
                                rw [HG.out (k - 1) (by omega), ← hy]
                                congr 1; omega
                              by_cases ho : y.toNat < 128
                              · have ho' : (y.toNat : Int) < 128 := by omega
                                go_wp2
                                go_ret
                                refine ⟨ret_bool (fin_no.out (fun h => ?_)), rfl⟩
                                unfold okc at h
                                have hy2 := HY.out
                                have hk23 : k = 2 ∨ k = 3 := by omega
                                rcases hk23 with rfl | rfl <;> (simp only [Nat.reduceSub] at hy2; rw [hy2] at h; omega)
                              · have ho' : ¬ (y.toNat : Int) < 128 := by omega
                                by_cases hp : 191 < y.toNat
                                · have hp' : (191 : Int) < (y.toNat : Int) := by omega
                                  go_wp2
                                  go_ret
                                  refine ⟨ret_bool (fin_no.out (fun h => ?_)), rfl⟩
                                  unfold okc at h
                                  have hy2 := HY.out
                                  have hk23 : k = 2 ∨ k = 3 := by omega
                                  rcases hk23 with rfl | rfl <;> (simp only [Nat.reduceSub] at hy2; rw [hy2] at h; omega)
                                · have hp' : ¬ (191 : Int) < (y.toNat : Int) := by omega
                                  go_wp2
                                  go_roundg (gk - 1)
                                  case measure => omega
                                  case rel =>
                                    have hy2 := HY.out
                                    have hb := HB.out
                                    have hk23 : k = 2 ∨ k = 3 := by omega
                                    rcases hk23 with rfl | rfl
                                    · simp only [Nat.reduceSub] at hy2
                                      exact ⟨rfl, 3, by omega, by omega, by omega, rfl, fun _ => by rw [hy2]; omega, fun h => absurd h (by omega)⟩
                                    · simp only [Nat.reduceSub] at hy2
                                      exact ⟨rfl, 4, by omega, by omega, by omega, rfl, fun _ => hb.1 (by omega), fun _ => by rw [hy2]; omega⟩
                            · have hk' : ¬ (k : Int) ≤ 2 := by omega
                              obtain rfl : k = 3 := by omega
                              go_wp2
                              go_roundg (s.size - (i + 3))
                              case measure => omega
                              case rel =>
                                refine ⟨rfl, i + 3, by omega, by go_num, fin_yes.out ?_⟩
                                have hb := HB.out
                                unfold okc
                                rw [HG1.out]
                                refine ⟨by omega, by omega, by omega, ?_, ?_⟩
                                · exact Or.inr (hb.1 (by omega))
                                · exact Or.inl (by omega)
                  · skip
                    by_cases q6 : x.toNat ≤ 239
                    · have ha : (239 : Int) ≤ (x.toNat : Int) := by omega
                      have hb : (x.toNat : Int) ≤ 239 := by omega
                      have e224 : ((x.toNat : Int) == 224) = false := by simp; omega
                      have e238 : ((x.toNat : Int) == 238) = false := by simp; omega
                      have e239 : ((x.toNat : Int) == 239) = true := by simp; omega
                      have e237 : ((x.toNat : Int) == 237) = false := by simp; omega
                      have e240 : ((x.toNat : Int) == 240) = false := by simp; omega
                      have e244 : ((x.toNat : Int) == 244) = false := by simp; omega
                      have HA : Aside (239 ≤ x.toNat ∧ x.toNat ≤ 239) := ⟨by omega, by omega⟩
                      have fin_no : Aside (¬ okc 2 128 191 r → false = V) := fun h => by
                        have := HI.out
                        rw [HD.out, valid_bad H128.out (dec_c3_no HA.out.1 HA.out.2 h)] at this
                        exact this
                      have fin_yes : Aside (okc 2 128 191 r → valid (s.data.toList.drop (i + 3)) = V) := fun h => by
                        have := HI.out
                        have hd := dec_c3 HA.out.1 HA.out.2 h
                        rw [HD.out, valid_rune H128.out (by rw [hd]; decide), hd, ← HD.out, List.drop_drop] at this
                        exact this
                      by_cases hsh : s.size - i ≤ 2
                      · have hsh' : (s.size : Int) - (i : Int) ≤ 2 := by omega
                        go_wp2
                        go_ret
                        exact ⟨ret_bool (fin_no.out (fun h => by unfold okc at h; omega)), rfl⟩
                      · have hsh' : ¬ (s.size : Int) - (i : Int) ≤ 2 := by omega
                        have hi1 : (i : Int) + 1 < (s.size : Int) := by omega
                        have htn : ((i : Int) + 1).toNat = i + 1 := by omega
                        obtain ⟨y1, hy1⟩ : ∃ y : UInt8, s[i + 1]'(by omega) = y := ⟨_, rfl⟩
                        have hg1 : r.getD 0 0 = y1 := by rw [← hy1]; exact HG.out 0 (by omega)
                        have HG1 : Aside (r.getD 0 0 = y1) := hg1
                        clear hg1
                        by_cases hl : y1.toNat < 128
                        · have hl' : (y1.toNat : Int) < 128 := by omega
                          go_wp2
                          go_ret
                          exact ⟨ret_bool (fin_no.out (fun h => by unfold okc at h; rw [HG1.out] at h; omega)), rfl⟩
                        · have hl' : ¬ (y1.toNat : Int) < 128 := by omega
                          by_cases hh : 191 < y1.toNat
                          · have hh' : (191 : Int) < (y1.toNat : Int) := by omega
                            go_wp2
                            go_ret
                            exact ⟨ret_bool (fin_no.out (fun h => by unfold okc at h; rw [HG1.out] at h; omega)), rfl⟩
                          · have hh' : ¬ (191 : Int) < (y1.toNat : Int) := by omega
                            go_wp2_with fail
                            go_loopg [8] 2 (fun g s8 wx => w = wx ∧ ∃ k : Nat, g + k = 4 ∧ 2 ≤ k ∧ k ≤ 3 ∧ s8 = .int .i64 k ∧ (2 < k → 128 ≤ (r.getD 1 0).toNat ∧ (r.getD 1 0).toNat ≤ 191) ∧ (3 < k → 128 ≤ (r.getD 2 0).toNat ∧ (r.getD 2 0).toNat ≤ 191))
                            case atStart => exact ⟨rfl, 2, by omega, by omega, by omega, rfl, fun h => absurd h (by omega), fun h => absurd h (by omega)⟩
                            case round =>
                              obtain ⟨rfl, k, hgk2, hk2, hkn, rfl, hb2, hb3⟩ := hrel
                              have HB : Aside ((2 < k → 128 ≤ (r.getD 1 0).toNat ∧ (r.getD 1 0).toNat ≤ 191) ∧ (3 < k → 128 ≤ (r.getD 2 0).toNat ∧ (r.getD 2 0).toNat ≤ 191)) := ⟨hb2, hb3⟩
                              clear hb2 hb3
                              by_cases hk : k ≤ 2
                              · have hk' : (k : Int) ≤ 2 := by omega
                                have hik : (i : Int) + (k : Int) < (s.size : Int) := by omega
                                have htk : ((i : Int) + (k : Int)).toNat = i + k := by omega
                                obtain ⟨y, hy⟩ : ∃ y : UInt8, s[i + k]'(by omega) = y := ⟨_, rfl⟩
                                have HY : Aside (r.getD (k - 1) 0 = y) := by
                                  show _ = _
                                  rw [HG.out (k - 1) (by omega), ← hy]
                                  congr 1; omega
                                by_cases ho : y.toNat < 128
                                · have ho' : (y.toNat : Int) < 128 := by omega
                                  go_wp2
                                  go_ret
                                  refine ⟨ret_bool (fin_no.out (fun h => ?_)), rfl⟩
                                  unfold okc at h
                                  have hy2 := HY.out
                                  have hk23 : k = 2 ∨ k = 3 := by omega
                                  rcases hk23 with rfl | rfl <;> (simp only [Nat.reduceSub] at hy2; rw [hy2] at h; omega)
                                · have ho' : ¬ (y.toNat : Int) < 128 := by omega
                                  by_cases hp : 191 < y.toNat
                                  · have hp' : (191 : Int) < (y.toNat : Int) := by omega
                                    go_wp2
                                    go_ret
                                    refine ⟨ret_bool (fin_no.out (fun h => ?_)), rfl⟩
                                    unfold okc at h
                                    have hy2 := HY.out
                                    have hk23 : k = 2 ∨ k = 3 := by omega
                                    rcases hk23 with rfl | rfl <;> (simp only [Nat.reduceSub] at hy2; rw [hy2] at h; omega)
                                  · have hp' : ¬ (191 : Int) < (y.toNat : Int) := by omega
                                    go_wp2
                                    go_roundg (gk - 1)
                                    case measure => omega
                                    case rel =>
                                      have hy2 := HY.out
                                      have hb := HB.out
                                      have hk23 : k = 2 ∨ k = 3 := by omega
                                      rcases hk23 with rfl | rfl
                                      · simp only [Nat.reduceSub] at hy2
                                        exact ⟨rfl, 3, by omega, by omega, by omega, rfl, fun _ => by rw [hy2]; omega, fun h => absurd h (by omega)⟩
                                      · simp only [Nat.reduceSub] at hy2
                                        exact ⟨rfl, 4, by omega, by omega, by omega, rfl, fun _ => hb.1 (by omega), fun _ => by rw [hy2]; omega⟩
                              · have hk' : ¬ (k : Int) ≤ 2 := by omega
                                obtain rfl : k = 3 := by omega
                                go_wp2
                                go_roundg (s.size - (i + 3))
                                case measure => omega
                                case rel =>
                                  refine ⟨rfl, i + 3, by omega, by go_num, fin_yes.out ?_⟩
                                  have hb := HB.out
                                  unfold okc
                                  rw [HG1.out]
                                  refine ⟨by omega, by omega, by omega, ?_, ?_⟩
                                  · exact Or.inr (hb.1 (by omega))
                                  · exact Or.inl (by omega)
                    · skip
                      by_cases q7 : x.toNat ≤ 240
                      · have ha : (240 : Int) ≤ (x.toNat : Int) := by omega
                        have hb : (x.toNat : Int) ≤ 240 := by omega
                        have e224 : ((x.toNat : Int) == 224) = false := by simp; omega
                        have e238 : ((x.toNat : Int) == 238) = false := by simp; omega
                        have e239 : ((x.toNat : Int) == 239) = false := by simp; omega
                        have e237 : ((x.toNat : Int) == 237) = false := by simp; omega
                        have e240 : ((x.toNat : Int) == 240) = true := by simp; omega
                        have e244 : ((x.toNat : Int) == 244) = false := by simp; omega
                        have HA : Aside (240 ≤ x.toNat ∧ x.toNat ≤ 240) := ⟨by omega, by omega⟩
                        have fin_no : Aside (¬ okc 3 144 191 r → false = V) := fun h => by
                          have := HI.out
                          rw [HD.out, valid_bad H128.out (dec_e_no HA.out.1 HA.out.2 h)] at this
                          exact this
                        have fin_yes : Aside (okc 3 144 191 r → valid (s.data.toList.drop (i + 4)) = V) := fun h => by
                          have := HI.out
                          have hd := dec_e HA.out.1 HA.out.2 h
                          rw [HD.out, valid_rune H128.out (by rw [hd]; decide), hd, ← HD.out, List.drop_drop] at this
                          exact this
                        by_cases hsh : s.size - i ≤ 3
                        · have hsh' : (s.size : Int) - (i : Int) ≤ 3 := by omega
                          go_wp2
                          go_ret
                          exact ⟨ret_bool (fin_no.out (fun h => by unfold okc at h; omega)), rfl⟩
                        · have hsh' : ¬ (s.size : Int) - (i : Int) ≤ 3 := by omega
                          have hi1 : (i : Int) + 1 < (s.size : Int) := by omega
                          have htn : ((i : Int) + 1).toNat = i + 1 := by omega
                          obtain ⟨y1, hy1⟩ : ∃ y : UInt8, s[i + 1]'(by omega) = y := ⟨_, rfl⟩
                          have hg1 : r.getD 0 0 = y1 := by rw [← hy1]; exact HG.out 0 (by omega)
                          have HG1 : Aside (r.getD 0 0 = y1) := hg1
                          clear hg1
                          by_cases hl : y1.toNat < 144
                          · have hl' : (y1.toNat : Int) < 144 := by omega
                            go_wp2
                            go_ret
                            exact ⟨ret_bool (fin_no.out (fun h => by unfold okc at h; rw [HG1.out] at h; omega)), rfl⟩
                          · have hl' : ¬ (y1.toNat : Int) < 144 := by omega
                            by_cases hh : 191 < y1.toNat
                            · have hh' : (191 : Int) < (y1.toNat : Int) := by omega
                              go_wp2
                              go_ret
                              exact ⟨ret_bool (fin_no.out (fun h => by unfold okc at h; rw [HG1.out] at h; omega)), rfl⟩
                            · have hh' : ¬ (191 : Int) < (y1.toNat : Int) := by omega
                              go_wp2_with fail
                              go_loopg [8] 3 (fun g s8 wx => w = wx ∧ ∃ k : Nat, g + k = 5 ∧ 2 ≤ k ∧ k ≤ 4 ∧ s8 = .int .i64 k ∧ (2 < k → 128 ≤ (r.getD 1 0).toNat ∧ (r.getD 1 0).toNat ≤ 191) ∧ (3 < k → 128 ≤ (r.getD 2 0).toNat ∧ (r.getD 2 0).toNat ≤ 191))
                              case atStart => exact ⟨rfl, 2, by omega, by omega, by omega, rfl, fun h => absurd h (by omega), fun h => absurd h (by omega)⟩
                              case round =>
                                obtain ⟨rfl, k, hgk2, hk2, hkn, rfl, hb2, hb3⟩ := hrel
                                have HB : Aside ((2 < k → 128 ≤ (r.getD 1 0).toNat ∧ (r.getD 1 0).toNat ≤ 191) ∧ (3 < k → 128 ≤ (r.getD 2 0).toNat ∧ (r.getD 2 0).toNat ≤ 191)) := ⟨hb2, hb3⟩
                                clear hb2 hb3
                                by_cases hk : k ≤ 3
                                · have hk' : (k : Int) ≤ 3 := by omega
                                  have hik : (i : Int) + (k : Int) < (s.size : Int) := by omega
                                  have htk : ((i : Int) + (k : Int)).toNat = i + k := by omega
                                  obtain ⟨y, hy⟩ : ∃ y : UInt8, s[i + k]'(by omega) = y := ⟨_, rfl⟩
                                  have HY : Aside (r.getD (k - 1) 0 = y) := by
                                    show _ = _
                                    rw [HG.out (k - 1) (by omega), ← hy]
                                    congr 1; omega
                                  by_cases ho : y.toNat < 128
                                  · have ho' : (y.toNat : Int) < 128 := by omega
                                    go_wp2
                                    go_ret
                                    refine ⟨ret_bool (fin_no.out (fun h => ?_)), rfl⟩
                                    unfold okc at h
                                    have hy2 := HY.out
                                    have hk23 : k = 2 ∨ k = 3 := by omega
                                    rcases hk23 with rfl | rfl <;> (simp only [Nat.reduceSub] at hy2; rw [hy2] at h; omega)
                                  · have ho' : ¬ (y.toNat : Int) < 128 := by omega
                                    by_cases hp : 191 < y.toNat
                                    · have hp' : (191 : Int) < (y.toNat : Int) := by omega
                                      go_wp2
                                      go_ret
                                      refine ⟨ret_bool (fin_no.out (fun h => ?_)), rfl⟩
                                      unfold okc at h
                                      have hy2 := HY.out
                                      have hk23 : k = 2 ∨ k = 3 := by omega
                                      rcases hk23 with rfl | rfl <;> (simp only [Nat.reduceSub] at hy2; rw [hy2] at h; omega)
                                    · have hp' : ¬ (191 : Int) < (y.toNat : Int) := by omega
                                      go_wp2
                                      go_roundg (gk - 1)
                                      case measure => omega
                                      case rel =>
                                        have hy2 := HY.out
                                        have hb := HB.out
                                        have hk23 : k = 2 ∨ k = 3 := by omega
                                        rcases hk23 with rfl | rfl
                                        · simp only [Nat.reduceSub] at hy2
                                          exact ⟨rfl, 3, by omega, by omega, by omega, rfl, fun _ => by rw [hy2]; omega, fun h => absurd h (by omega)⟩
                                        · simp only [Nat.reduceSub] at hy2
                                          exact ⟨rfl, 4, by omega, by omega, by omega, rfl, fun _ => hb.1 (by omega), fun _ => by rw [hy2]; omega⟩
                                · have hk' : ¬ (k : Int) ≤ 3 := by omega
                                  obtain rfl : k = 4 := by omega
                                  go_wp2
                                  go_roundg (s.size - (i + 4))
                                  case measure => omega
                                  case rel =>
                                    refine ⟨rfl, i + 4, by omega, by go_num, fin_yes.out ?_⟩
                                    have hb := HB.out
                                    unfold okc
                                    rw [HG1.out]
                                    refine ⟨by omega, by omega, by omega, ?_, ?_⟩
                                    · exact Or.inr (hb.1 (by omega))
                                    · exact Or.inr (hb.2 (by omega))
                      · skip
                        by_cases q8 : x.toNat ≤ 243
                        · have ha : (241 : Int) ≤ (x.toNat : Int) := by omega
                          have hb : (x.toNat : Int) ≤ 243 := by omega
                          have e224 : ((x.toNat : Int) == 224) = false := by simp; omega
                          have e238 : ((x.toNat : Int) == 238) = false := by simp; omega
                          have e239 : ((x.toNat : Int) == 239) = false := by simp; omega
                          have e237 : ((x.toNat : Int) == 237) = false := by simp; omega
                          have e240 : ((x.toNat : Int) == 240) = false := by simp; omega
                          have e244 : ((x.toNat : Int) == 244) = false := by simp; omega
                          have HA : Aside (241 ≤ x.toNat ∧ x.toNat ≤ 243) := ⟨by omega, by omega⟩
                          have fin_no : Aside (¬ okc 3 128 191 r → false = V) := fun h => by
                            have := HI.out
                            rw [HD.out, valid_bad H128.out (dec_f_no HA.out.1 HA.out.2 h)] at this
                            exact this
                          have fin_yes : Aside (okc 3 128 191 r → valid (s.data.toList.drop (i + 4)) = V) := fun h => by
                            have := HI.out
                            have hd := dec_f HA.out.1 HA.out.2 h
                            rw [HD.out, valid_rune H128.out (by rw [hd]; decide), hd, ← HD.out, List.drop_drop] at this
                            exact this
                          by_cases hsh : s.size - i ≤ 3
                          · have hsh' : (s.size : Int) - (i : Int) ≤ 3 := by omega
                            go_wp2
                            go_ret
                            exact ⟨ret_bool (fin_no.out (fun h => by unfold okc at h; omega)), rfl⟩
                          · have hsh' : ¬ (s.size : Int) - (i : Int) ≤ 3 := by omega
                            have hi1 : (i : Int) + 1 < (s.size : Int) := by omega
                            have htn : ((i : Int) + 1).toNat = i + 1 := by omega
                            obtain ⟨y1, hy1⟩ : ∃ y : UInt8, s[i + 1]'(by omega) = y := ⟨_, rfl⟩
                            have hg1 : r.getD 0 0 = y1 := by rw [← hy1]; exact HG.out 0 (by omega)
                            have HG1 : Aside (r.getD 0 0 = y1) := hg1
                            clear hg1
                            by_cases hl : y1.toNat < 128
                            · have hl' : (y1.toNat : Int) < 128 := by omega
                              go_wp2
                              go_ret
                              exact ⟨ret_bool (fin_no.out (fun h => by unfold okc at h; rw [HG1.out] at h; omega)), rfl⟩
                            · have hl' : ¬ (y1.toNat : Int) < 128 := by omega
                              by_cases hh : 191 < y1.toNat
                              · have hh' : (191 : Int) < (y1.toNat : Int) := by omega
                                go_wp2
                                go_ret
                                exact ⟨ret_bool (fin_no.out (fun h => by unfold okc at h; rw [HG1.out] at h; omega)), rfl⟩
                              · have hh' : ¬ (191 : Int) < (y1.toNat : Int) := by omega
                                go_wp2_with fail
                                go_loopg [8] 3 (fun g s8 wx => w = wx ∧ ∃ k : Nat, g + k = 5 ∧ 2 ≤ k ∧ k ≤ 4 ∧ s8 = .int .i64 k ∧ (2 < k → 128 ≤ (r.getD 1 0).toNat ∧ (r.getD 1 0).toNat ≤ 191) ∧ (3 < k → 128 ≤ (r.getD 2 0).toNat ∧ (r.getD 2 0).toNat ≤ 191))
                                case atStart => exact ⟨rfl, 2, by omega, by omega, by omega, rfl, fun h => absurd h (by omega), fun h => absurd h (by omega)⟩
                                case round =>
                                  obtain ⟨rfl, k, hgk2, hk2, hkn, rfl, hb2, hb3⟩ := hrel
                                  have HB : Aside ((2 < k → 128 ≤ (r.getD 1 0).toNat ∧ (r.getD 1 0).toNat ≤ 191) ∧ (3 < k → 128 ≤ (r.getD 2 0).toNat ∧ (r.getD 2 0).toNat ≤ 191)) := ⟨hb2, hb3⟩
                                  clear hb2 hb3
                                  by_cases hk : k ≤ 3
                                  · have hk' : (k : Int) ≤ 3 := by omega
                                    have hik : (i : Int) + (k : Int) < (s.size : Int) := by omega
                                    have htk : ((i : Int) + (k : Int)).toNat = i + k := by omega
                                    obtain ⟨y, hy⟩ : ∃ y : UInt8, s[i + k]'(by omega) = y := ⟨_, rfl⟩
                                    have HY : Aside (r.getD (k - 1) 0 = y) := by
                                      show _ = _
                                      rw [HG.out (k - 1) (by omega), ← hy]
                                      congr 1; omega
                                    by_cases ho : y.toNat < 128
                                    · have ho' : (y.toNat : Int) < 128 := by omega
                                      go_wp2
                                      go_ret
                                      refine ⟨ret_bool (fin_no.out (fun h => ?_)), rfl⟩
                                      unfold okc at h
                                      have hy2 := HY.out
                                      have hk23 : k = 2 ∨ k = 3 := by omega
                                      rcases hk23 with rfl | rfl <;> (simp only [Nat.reduceSub] at hy2; rw [hy2] at h; omega)
                                    · have ho' : ¬ (y.toNat : Int) < 128 := by omega
                                      by_cases hp : 191 < y.toNat
                                      · have hp' : (191 : Int) < (y.toNat : Int) := by omega
                                        go_wp2
                                        go_ret
                                        refine ⟨ret_bool (fin_no.out (fun h => ?_)), rfl⟩
                                        unfold okc at h
                                        have hy2 := HY.out
                                        have hk23 : k = 2 ∨ k = 3 := by omega
                                        rcases hk23 with rfl | rfl <;> (simp only [Nat.reduceSub] at hy2; rw [hy2] at h; omega)
                                      · have hp' : ¬ (191 : Int) < (y.toNat : Int) := by omega
                                        go_wp2
                                        go_roundg (gk - 1)
                                        case measure => omega
                                        case rel =>
                                          have hy2 := HY.out
                                          have hb := HB.out
                                          have hk23 : k = 2 ∨ k = 3 := by omega
                                          rcases hk23 with rfl | rfl
                                          · simp only [Nat.reduceSub] at hy2
                                            exact ⟨rfl, 3, by omega, by omega, by omega, rfl, fun _ => by rw [hy2]; omega, fun h => absurd h (by omega)⟩
                                          · simp only [Nat.reduceSub] at hy2
                                            exact ⟨rfl, 4, by omega, by omega, by omega, rfl, fun _ => hb.1 (by omega), fun _ => by rw [hy2]; omega⟩
                                  · have hk' : ¬ (k : Int) ≤ 3 := by omega
                                    obtain rfl : k = 4 := by omega
                                    go_wp2
                                    go_roundg (s.size - (i + 4))
                                    case measure => omega
                                    case rel =>
                                      refine ⟨rfl, i + 4, by omega, by go_num, fin_yes.out ?_⟩
                                      have hb := HB.out
                                      unfold okc
                                      rw [HG1.out]
                                      refine ⟨by omega, by omega, by omega, ?_, ?_⟩
                                      · exact Or.inr (hb.1 (by omega))
                                      · exact Or.inr (hb.2 (by omega))
                        · skip
                          by_cases q9 : x.toNat ≤ 244
                          · have ha : (244 : Int) ≤ (x.toNat : Int) := by omega
                            have hb : (x.toNat : Int) ≤ 244 := by omega
                            have e224 : ((x.toNat : Int) == 224) = false := by simp; omega
                            have e238 : ((x.toNat : Int) == 238) = false := by simp; omega
                            have e239 : ((x.toNat : Int) == 239) = false := by simp; omega
                            have e237 : ((x.toNat : Int) == 237) = false := by simp; omega
                            have e240 : ((x.toNat : Int) == 240) = false := by simp; omega
                            have e244 : ((x.toNat : Int) == 244) = true := by simp; omega
                            have HA : Aside (244 ≤ x.toNat ∧ x.toNat ≤ 244) := ⟨by omega, by omega⟩
                            have fin_no : Aside (¬ okc 3 128 143 r → false = V) := fun h => by
                              have := HI.out
                              rw [HD.out, valid_bad H128.out (dec_g_no HA.out.1 HA.out.2 h)] at this
                              exact this
                            have fin_yes : Aside (okc 3 128 143 r → valid (s.data.toList.drop (i + 4)) = V) := fun h => by
                              have := HI.out
                              have hd := dec_g HA.out.1 HA.out.2 h
                              rw [HD.out, valid_rune H128.out (by rw [hd]; decide), hd, ← HD.out, List.drop_drop] at this
                              exact this
                            by_cases hsh : s.size - i ≤ 3
                            · have hsh' : (s.size : Int) - (i : Int) ≤ 3 := by omega
                              go_wp2
                              go_ret
                              exact ⟨ret_bool (fin_no.out (fun h => by unfold okc at h; omega)), rfl⟩
                            · have hsh' : ¬ (s.size : Int) - (i : Int) ≤ 3 := by omega
                              have hi1 : (i : Int) + 1 < (s.size : Int) := by omega
                              have htn : ((i : Int) + 1).toNat = i + 1 := by omega
                              obtain ⟨y1, hy1⟩ : ∃ y : UInt8, s[i + 1]'(by omega) = y := ⟨_, rfl⟩
                              have hg1 : r.getD 0 0 = y1 := by rw [← hy1]; exact HG.out 0 (by omega)
                              have HG1 : Aside (r.getD 0 0 = y1) := hg1
                              clear hg1
                              by_cases hl : y1.toNat < 128
                              · have hl' : (y1.toNat : Int) < 128 := by omega
                                go_wp2
                                go_ret
                                exact ⟨ret_bool (fin_no.out (fun h => by unfold okc at h; rw [HG1.out] at h; omega)), rfl⟩
                              · have hl' : ¬ (y1.toNat : Int) < 128 := by omega
                                by_cases hh : 143 < y1.toNat
                                · have hh' : (143 : Int) < (y1.toNat : Int) := by omega
                                  go_wp2
                                  go_ret
                                  exact ⟨ret_bool (fin_no.out (fun h => by unfold okc at h; rw [HG1.out] at h; omega)), rfl⟩
                                · have hh' : ¬ (143 : Int) < (y1.toNat : Int) := by omega
                                  go_wp2_with fail
                                  go_loopg [8] 3 (fun g s8 wx => w = wx ∧ ∃ k : Nat, g + k = 5 ∧ 2 ≤ k ∧ k ≤ 4 ∧ s8 = .int .i64 k ∧ (2 < k → 128 ≤ (r.getD 1 0).toNat ∧ (r.getD 1 0).toNat ≤ 191) ∧ (3 < k → 128 ≤ (r.getD 2 0).toNat ∧ (r.getD 2 0).toNat ≤ 191))
                                  case atStart => exact ⟨rfl, 2, by omega, by omega, by omega, rfl, fun h => absurd h (by omega), fun h => absurd h (by omega)⟩
                                  case round =>
                                    obtain ⟨rfl, k, hgk2, hk2, hkn, rfl, hb2, hb3⟩ := hrel
                                    have HB : Aside ((2 < k → 128 ≤ (r.getD 1 0).toNat ∧ (r.getD 1 0).toNat ≤ 191) ∧ (3 < k → 128 ≤ (r.getD 2 0).toNat ∧ (r.getD 2 0).toNat ≤ 191)) := ⟨hb2, hb3⟩
                                    clear hb2 hb3
                                    by_cases hk : k ≤ 3
                                    · have hk' : (k : Int) ≤ 3 := by omega
                                      have hik : (i : Int) + (k : Int) < (s.size : Int) := by omega
                                      have htk : ((i : Int) + (k : Int)).toNat = i + k := by omega
                                      obtain ⟨y, hy⟩ : ∃ y : UInt8, s[i + k]'(by omega) = y := ⟨_, rfl⟩
                                      have HY : Aside (r.getD (k - 1) 0 = y) := by
                                        show _ = _
                                        rw [HG.out (k - 1) (by omega), ← hy]
                                        congr 1; omega
                                      by_cases ho : y.toNat < 128
                                      · have ho' : (y.toNat : Int) < 128 := by omega
                                        go_wp2
                                        go_ret
                                        refine ⟨ret_bool (fin_no.out (fun h => ?_)), rfl⟩
                                        unfold okc at h
                                        have hy2 := HY.out
                                        have hk23 : k = 2 ∨ k = 3 := by omega
                                        rcases hk23 with rfl | rfl <;> (simp only [Nat.reduceSub] at hy2; rw [hy2] at h; omega)
                                      · have ho' : ¬ (y.toNat : Int) < 128 := by omega
                                        by_cases hp : 191 < y.toNat
                                        · have hp' : (191 : Int) < (y.toNat : Int) := by omega
                                          go_wp2
                                          go_ret
                                          refine ⟨ret_bool (fin_no.out (fun h => ?_)), rfl⟩
                                          unfold okc at h
                                          have hy2 := HY.out
                                          have hk23 : k = 2 ∨ k = 3 := by omega
                                          rcases hk23 with rfl | rfl <;> (simp only [Nat.reduceSub] at hy2; rw [hy2] at h; omega)
                                        · have hp' : ¬ (191 : Int) < (y.toNat : Int) := by omega
                                          go_wp2
                                          go_roundg (gk - 1)
                                          case measure => omega
                                          case rel =>
                                            have hy2 := HY.out
                                            have hb := HB.out
                                            have hk23 : k = 2 ∨ k = 3 := by omega
                                            rcases hk23 with rfl | rfl
                                            · simp only [Nat.reduceSub] at hy2
                                              exact ⟨rfl, 3, by omega, by omega, by omega, rfl, fun _ => by rw [hy2]; omega, fun h => absurd h (by omega)⟩
                                            · simp only [Nat.reduceSub] at hy2
                                              exact ⟨rfl, 4, by omega, by omega, by omega, rfl, fun _ => hb.1 (by omega), fun _ => by rw [hy2]; omega⟩
                                    · have hk' : ¬ (k : Int) ≤ 3 := by omega
                                      obtain rfl : k = 4 := by omega
                                      go_wp2
                                      go_roundg (s.size - (i + 4))
                                      case measure => omega
                                      case rel =>
                                        refine ⟨rfl, i + 4, by omega, by go_num, fin_yes.out ?_⟩
                                        have hb := HB.out
                                        unfold okc
                                        rw [HG1.out]
                                        refine ⟨by omega, by omega, by omega, ?_, ?_⟩
                                        · exact Or.inr (hb.1 (by omega))
                                        · exact Or.inr (hb.2 (by omega))
                          · skip
                            have ha : (245 : Int) ≤ (x.toNat : Int) := by omega
                            have hb : (x.toNat : Int) ≤ 255 := by omega
                            have e224 : ((x.toNat : Int) == 224) = false := by simp; omega
                            have e238 : ((x.toNat : Int) == 238) = false := by simp; omega
                            have e239 : ((x.toNat : Int) == 239) = false := by simp; omega
                            have e237 : ((x.toNat : Int) == 237) = false := by simp; omega
                            have e240 : ((x.toNat : Int) == 240) = false := by simp; omega
                            have e244 : ((x.toNat : Int) == 244) = false := by simp; omega
                            have HA : Aside (245 ≤ x.toNat ∧ x.toNat ≤ 255) := ⟨by omega, by omega⟩
                            go_wp2
                            go_ret
                            refine ⟨ret_bool ?_, rfl⟩
                            have := HI.out
                            rw [HD.out, valid_bad H128.out (dec_bad2 HA.out.1 HA.out.2)] at this
                            exact this
    · have hi' : ¬ (i : Int) < (s.size : Int) := by omega
      go_wp2
      go_ret
      refine ⟨ret_bool ?_, rfl⟩
      have := HI.out
      rw [List.drop_eq_nil_of_le (by rw [← Lib.size_eq]; omega)] at this
      exact this
end Go.Proofs.Qxb6604447aGreatFmt
