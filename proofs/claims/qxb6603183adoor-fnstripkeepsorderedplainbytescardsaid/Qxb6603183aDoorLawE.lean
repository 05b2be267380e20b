/-
  The walk of the law FnStripKeepsOrderedPlainBytes.
-/
import Derived.Test.Qxb6603183aDoorStrip
import Derived.Test.Qxb6603183aDoorFoldAt
namespace Go.Proofs.Qxb6603183aDoor
set_option maxRecDepth 1000000
open Go.RowKit Go.Lib

theorem zzBytesE (s : ByteArray) (w : World) (h1 : s.size ≤ 1048576) :
    Calls Tryd.prog 17 #[.string s] w fun e w' => e = .returned (.bool true) ∧ w' = w := by
  go_enter Tryd.func17, Tryd.ntmps17
  go_wp2
  go_ret
  exact ⟨rfl, rfl⟩

set_option maxHeartbeats 2000000 in
theorem lawE_far (s : ByteArray) (w : World) (hs : s.size ≤ maxLen) (h : 1048576 < s.size) :
    Calls Tryd.prog 7 #[.string s] w fun e w' => e = .returned (.bool true) ∧ Below w.heap.size w w' := by
  unfold maxLen at hs
  go_enter Tryd.func7, Tryd.ntmps7
  go_wp2
  all_goals (go_ret; exact ⟨rfl, Below.refl _ _⟩)

theorem hasE_cons (c : UInt8) (l : List UInt8) : hasE (c :: l) = ((decide (c.toNat = 27) || foldAt (c :: l) escL) || hasE l) := by
  rw [hasE, escN_pos, foldAt_hpf _ _ (by decide)]

set_option maxHeartbeats 4000000 in
theorem lawE (s : ByteArray) (w : World) (hs : s.size ≤ maxLen) (hF : Folds w) :
    Calls Tryd.prog 7 #[.string s] w fun e w' => e = .returned (.bool true) ∧ Below w.heap.size w w' := by
  by_cases h : s.size ≤ 1048576
  · have HF : Aside (Folds w) := hF
    clear hF hs
    go_enter Tryd.func7, Tryd.ntmps7
    go_wp2_with fail
    refine (zzBytesE s w h).mono ?_
    rintro e w' ⟨rfl, rfl⟩
    go_wp2_with fail
    refine (stripW s w' (by omega) HF.out).mono ?_
    rintro e w1 ⟨rfl, hb1⟩
    have HB1 : Aside (Below w'.heap.size w' w1) := hb1
    clear hb1
    obtain ⟨S, hS⟩ : ∃ S : ByteArray, (⟨(strip s.data.toList).toArray⟩ : ByteArray) = S := ⟨_, rfl⟩
    have HS : Hid (S.data.toList = strip s.data.toList) := by rw [← hS]; rfl
    rw [hS]
    clear hS
    have hSs : S.size ≤ s.size := by
      have := (strip_sub s.data.toList).length_le
      rw [← HS.out, ← Lib.size_eq, ← Lib.size_eq] at this
      exact this
    go_wp2_with fail
    go_loopg [4, 5] s.size (fun g s4 s5 wx => Below w'.heap.size w' wx ∧ ∃ k p : Nat, g + p = s.size ∧ k ≤ S.size ∧ s4 = .int .i64 k ∧ s5 = .int .i64 p ∧ k + greedy (s.data.toList.drop p) (S.data.toList.drop k) = S.size)
    case atStart => exact ⟨HB1.out, 0, 0, by omega, by omega, rfl, rfl, by rw [Lib.size_eq S, HS.out]; simpa using greedy_strip s.data.toList⟩
    case round =>
      obtain ⟨hB, k, p, hgp, hkS, rfl, rfl, hinv⟩ := hrel
      have HI : Aside (k + greedy (s.data.toList.drop p) (S.data.toList.drop k) = S.size) := hinv
      have HB : Aside (Below w'.heap.size w' wr) := hB
      clear hinv hB
      by_cases hgo : p < s.size ∧ k < S.size
      · obtain ⟨hp, hk⟩ := hgo
        have hp' : (p : Int) < (s.size : Int) := by omega
        have hk' : (k : Int) < (S.size : Int) := by omega
        obtain ⟨x, hx⟩ : ∃ x : UInt8, s[p]'(by omega) = x := ⟨_, rfl⟩
        obtain ⟨y, hy⟩ : ∃ y : UInt8, S[k]'(by omega) = y := ⟨_, rfl⟩
        have hxl : s.data.toList[p]? = some x := by rw [← hx]; exact Lib.data_getElem? s p (by omega)
        have hyl : S.data.toList[k]? = some y := by rw [← hy]; exact Lib.data_getElem? S k (by omega)
        have HD : Aside (s.data.toList.drop p = x :: s.data.toList.drop (p + 1) ∧ S.data.toList.drop k = y :: S.data.toList.drop (k + 1)) := ⟨Lib.drop_at hxl, Lib.drop_at hyl⟩
        clear hxl hyl
        by_cases hxy : x = y
        · have hxy' : ((x.toNat : Int) == (y.toNat : Int)) = true := by rw [hxy]; simp
          have HX : Hid (x = y) := hxy
          clear hxy
          go_wp2_with fail
          go_quiet (fail)
          go_wp2
          go_roundg (gk - 1)
          case measure => omega
          case rel =>
            refine ⟨below_drewN HB.out _, k + 1, p + 1, by omega, by omega, by go_num, by go_num, ?_⟩
            have := HI.out
            rw [HD.out.1, HD.out.2, greedy, if_pos HX.out] at this
            omega
        · have hxy' : ((x.toNat : Int) == (y.toNat : Int)) = false := by
            simp
            intro e
            exact hxy (UInt8.toNat_inj.1 (by omega))
          have HX : Hid (¬ x = y) := hxy
          clear hxy
          go_wp2_with fail
          go_quiet (fail)
          go_wp2
          go_roundg (gk - 1)
          case measure => omega
          case rel =>
            refine ⟨below_drewN HB.out _, k, p + 1, by omega, by omega, rfl, by go_num, ?_⟩
            have := HI.out
            rw [HD.out.1, HD.out.2, greedy, if_neg HX.out, ← HD.out.2] at this
            omega
      · have hkS2 : k = S.size := by
          have := HI.out
          rcases Nat.lt_or_ge p s.size with h1 | h1
          · have : S.size ≤ k := by omega
            omega
          · rw [show s.data.toList.drop p = [] from List.drop_eq_nil_of_le (by rw [← Lib.size_eq]; omega)] at this
            have e0 : greedy [] (S.data.toList.drop k) = 0 := by cases S.data.toList.drop k <;> rfl
            omega
        have hkb : ((k : Int) != (S.size : Int)) = false := by simp; omega
        have hk' : ¬ ((k : Int) < (S.size : Int)) := by omega
        clear hgo hkS2 HI
        by_cases hp : (p : Int) < (s.size : Int)
        all_goals
          go_wp2_with fail
          go_loopg [6] S.size (fun g s6 wx => Below w'.heap.size w' wx ∧ ∃ m : Nat, g + m = S.size ∧ s6 = .int .i64 m)
          case atStart => exact ⟨HB.out, 0, by omega, rfl⟩
          case round =>
            obtain ⟨hB2, m, hm, rfl⟩ := hrel
            have HB2 : Aside (Below w'.heap.size w' wr) := hB2
            clear hB2
            by_cases hmS : m < S.size
            · have hmS' : (m : Int) < (S.size : Int) := by omega
              obtain ⟨y, hy⟩ : ∃ y : UInt8, S[m]'(by omega) = y := ⟨_, rfl⟩
              have hyl : S.data.toList[m]? = some y := by rw [← hy]; exact Lib.data_getElem? S m (by omega)
              have hy27 : ((y.toNat : Int) == 27) = false := by
                have := strip_clean s.data.toList y (by rw [← HS.out]; exact List.mem_of_getElem? hyl)
                simp; omega
              clear hyl
              go_wp2
              go_roundg (gk - 1)
              case measure => omega
              case rel => exact ⟨HB2.out, m + 1, by omega, by go_num⟩
            · have hmS' : ¬ (m : Int) < (S.size : Int) := by omega
              go_wp2_with fail
              go_loopg [7, 8] s.size (fun g s7 s8 wx => Below w'.heap.size w' wx ∧ s7 = .bool false ∧ ∃ q : Nat, g + q = s.size ∧ s8 = .int .i64 q ∧ hasE (s.data.toList.drop q) = hasE s.data.toList)
              case atStart => exact ⟨HB2.out, rfl, 0, by omega, rfl, rfl⟩
              case round =>
                obtain ⟨hB3, rfl, q, hq, rfl, hinv⟩ := hrel
                have HB3 : Aside (Below w'.heap.size w' wr) := hB3
                have HI : Aside (hasE (s.data.toList.drop q) = hasE s.data.toList) := hinv
                clear hB3 hinv
                by_cases hqs : q < s.size
                · have hqs' : (q : Int) < (s.size : Int) := by omega
                  obtain ⟨x, hx⟩ : ∃ x : UInt8, s[q]'(by omega) = x := ⟨_, rfl⟩
                  have hxl : s.data.toList[q]? = some x := by rw [← hx]; exact Lib.data_getElem? s q (by omega)
                  have HD : Aside (s.data.toList.drop q = x :: s.data.toList.drop (q + 1)) := Lib.drop_at hxl
                  clear hxl
                  have HE : Aside (hasE s.data.toList = ((decide (x.toNat = 27) || foldAt (s.data.toList.drop q) escL) || hasE (s.data.toList.drop (q + 1)))) := by
                    show _ = _
                    rw [← HI.out, HD.out, hasE_cons]
                  by_cases h27 : x.toNat = 27
                  · have h27' : ((x.toNat : Int) == 27) = true := by simp; omega
                    have hfin : (S.toList == s.toList) = false := by
                      rw [Lib.toList_data, Lib.toList_data, HS.out, strip_eq, HE.out, decide_eq_true h27]; rfl
                    clear h27
                    go_wp2
                    go_ret
                    exact ⟨rfl, HB3.out⟩
                  · have h27' : ((x.toNat : Int) == 27) = false := by simp; omega
                    have H27 : Hid (¬ x.toNat = 27) := h27
                    clear h27
                    go_wp2_with fail
                    refine (foldAtW s _ q wr (by omega) (by omega) (by decide)).mono ?_
                    rintro e w2 ⟨rfl, hb2⟩
                    have HB4 : Aside (Below w'.heap.size w' w2) := HB3.out.trans (hb2.mono HB3.out.size)
                    clear hb2
                    cases hf : foldAt (s.data.toList.drop q) (ByteArray.data { data := #[92, 117, 48, 48, 49, 98] }).toList with
                    | true =>
                      have hfin : (S.toList == s.toList) = false := by
                        rw [Lib.toList_data, Lib.toList_data, HS.out, strip_eq, HE.out, show foldAt (s.data.toList.drop q) escL = true from hf]; simp
                      clear hf
                      go_wp2
                      go_ret
                      exact ⟨rfl, HB4.out⟩
                    | false =>
                      have HE2 : Aside (hasE (s.data.toList.drop (q + 1)) = hasE s.data.toList) := by
                        show _ = _
                        rw [HE.out, decide_eq_false H27.out, show foldAt (s.data.toList.drop q) escL = false from hf]; simp
                      clear hf
                      go_wp2
                      go_roundg (gk - 1)
                      case measure => omega
                      case rel => exact ⟨HB4.out, rfl, q + 1, by omega, by go_num, HE2.out⟩
                · have hqs' : ¬ (q : Int) < (s.size : Int) := by omega
                  have hfin : (S.toList == s.toList) = true := by
                    rw [Lib.toList_data, Lib.toList_data, HS.out, strip_eq, ← HI.out, List.drop_eq_nil_of_le (by rw [← Lib.size_eq]; omega)]; rfl
                  go_wp2
                  go_ret
                  exact ⟨rfl, HB3.out⟩
  · exact lawE_far s w hs (by omega)
end Go.Proofs.Qxb6603183aDoor
