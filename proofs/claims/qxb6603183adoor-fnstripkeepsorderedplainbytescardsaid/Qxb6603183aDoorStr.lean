/-
  The walk of stringEnd, and of its door ZZStringEnd.
-/
import Derived.Test.Qxb6603183aDoorCtl
namespace Go.Proofs.Qxb6603183aDoor
set_option maxRecDepth 1000000
open Go.RowKit Go.Lib

theorem bsl_one : (⟨#[92]⟩ : ByteArray).data.toList = bsl 1 := rfl

set_option maxHeartbeats 2000000 in
theorem stringEnd (s : ByteArray) (i : Nat) (j : Bool) (w : World) (hs : s.size < 4294967281) (hF : Folds w) (hi : i ≤ s.size) :
    Calls Tryd.prog 22 #[.string s, .int .i64 i, .bool j] w fun e w' => e = .returned (.int .i64 ((i + strE j (s.data.toList.drop i) : Nat) : Int)) ∧ Below w.heap.size w w' := by
  have HF : Aside (Folds w) := hF
  clear hF
  obtain ⟨E, hE⟩ : ∃ E, i + strE j (s.data.toList.drop i) = E := ⟨_, rfl⟩
  rw [hE]
  have HE : Hid (i + strE j (s.data.toList.drop i) = E) := hE
  clear hE
  go_enter Tryd.func22, Tryd.ntmps22
  go_wp2
  go_loopg [1] (s.size - i) (fun g s1 wx => Below w.heap.size w wx ∧ ∃ k : Nat, g + k = s.size ∧ s1 = .int .i64 k ∧ k + strE j (s.data.toList.drop k) = E)
  case atStart => exact ⟨Below.refl _ _, i, by omega, rfl, HE.out⟩
  case round =>
    obtain ⟨hB, k, hk, rfl, hinv⟩ := hrel
    have HI : Aside (k + strE j (s.data.toList.drop k) = E) := hinv
    have HB : Aside (Below w.heap.size w wr) := hB
    clear hinv hB
    cases gk with
    | zero =>
      have hks : ¬ ((k : Int) < (s.size : Int)) := by omega
      go_wp2
      go_ret
      refine ⟨ret_int ?_, HB.out⟩
      have := HI.out
      rw [List.drop_eq_nil_of_le (by rw [← Lib.size_eq]; omega), strE_nil] at this
      omega
    | succ g =>
      have hks : ((k : Int) < (s.size : Int)) := by omega
      have hkn : k < s.size := by omega
      obtain ⟨x, hx⟩ : ∃ x : UInt8, s[k]'(by omega) = x := ⟨_, rfl⟩
      have hxl : s.data.toList[k]? = some x := by rw [← hx]; exact Lib.data_getElem? s k (by omega)
      have hd := Lib.drop_at hxl
      have hlen : (s.data.toList.drop k).length = s.size - k := by rw [List.length_drop, ← Lib.size_eq]
      have HD : Aside (s.data.toList.drop k = x :: s.data.toList.drop (k + 1)) := hd
      have hFr : Folds wr := HF.out.below HB.out
      have h1 : belN (s.data.toList.drop k) ≤ s.size - k := by rw [← hlen]; exact ctl_le _ _ _
      have h2 : escN (s.data.toList.drop k) ≤ s.size - k := by rw [← hlen]; exact ctl_le _ _ _
      have HFr : Aside (Folds wr) := hFr
      obtain ⟨N1, hN1⟩ : ∃ N, belN (s.data.toList.drop k) = N := ⟨_, rfl⟩
      obtain ⟨N2, hN2⟩ : ∃ N, escN (s.data.toList.drop k) = N := ⟨_, rfl⟩
      rw [hN1] at h1
      rw [hN2] at h2
      have HN1 : Hid (belN (s.data.toList.drop k) = N1) := hN1
      have HN2 : Hid (escN (s.data.toList.drop k) = N2) := hN2
      clear hN1 hN2 hd hxl hlen hFr
      have hsz : (s.size : Int) < 4294967281 := by omega
      go_wp2_with fail
      refine (belAt s k wr hs HFr.out hkn).mono ?_
      rintro e w1 ⟨rfl, hb1⟩
      rw [HN1.out]
      have HB1 : Aside (Below wr.heap.size wr w1) := hb1
      have HF1 : Aside (Folds w1) := HFr.out.below hb1
      have HBw : Aside (Below w.heap.size w w1) := HB.out.trans (hb1.mono HB.out.size)
      clear hb1
      by_cases h01 : 0 < N1
      · have h01' : (0 : Int) < (N1 : Int) := by omega
        go_wp2
        go_ret
        refine ⟨ret_int ?_, HBw.out⟩
        have := HI.out
        rw [HD.out, strE_some (n := N1) (by rw [← HD.out]; unfold strH; rw [HN1.out, if_pos h01])] at this
        omega
      · have h01' : ¬ (0 : Int) < (N1 : Int) := by omega
        go_wp2_with fail
        refine (escAt s k w1 hs HF1.out hkn).mono ?_
        rintro e w2 ⟨rfl, hb2⟩
        rw [HN2.out]
        have HB2 : Aside (Below w.heap.size w w2) := HBw.out.trans (hb2.mono HBw.out.size)
        clear hb2
        by_cases h02 : 0 < N2
        · have h02' : (0 : Int) < (N2 : Int) := by omega
          have hkk : k + N2 ≤ s.size := by omega
          have HST : Hid (strH j (s.data.toList.drop k) = if Lib.hasPrefix (s.data.toList.drop (k + N2)) (bsl N2) then some (N2 + (bsl N2).length) else some 0) := by
            show _ = _
            unfold strH; rw [HN1.out, HN2.out, if_neg h01, if_pos h02, List.drop_drop]
          have hext : (s.extract (k + N2) s.size).data.toList = s.data.toList.drop (k + N2) := Lib.extract_to_end _ _
          have HX : Hid ((s.extract (k + N2) s.size).data.toList = s.data.toList.drop (k + N2)) := hext
          clear hext
          by_cases h12 : 1 < N2
          · have h12' : (1 : Int) < (N2 : Int) := by omega
            have hbs : bsl N2 = [92, 92] := if_pos h12
            have HBS : Hid (bsl N2 = [92, 92]) := hbs
            clear hbs
            go_wp2_with fail
            refine (hasPrefix _ _ w2).mono ?_
            rintro e w3 ⟨rfl, rfl⟩
            rw [show (s.extract (k + N2) s.size).data.toList = s.data.toList.drop (k + N2) from HX.out]
            cases hp : Lib.hasPrefix (s.data.toList.drop (k + N2)) (ByteArray.data { data := #[92, 92] }).toList with
            | true =>
              have := HST.out
              rw [HBS.out, if_pos hp] at this
              have HS : Hid (strH j (s.data.toList.drop k) = some (N2 + 2)) := this
              have hle := strH_le this
              rw [List.length_drop, ← Lib.size_eq] at hle
              clear this hp
              go_wp2
              go_ret
              refine ⟨ret_int ?_, HB2.out⟩
              have := HI.out
              rw [HD.out, strE_some (n := N2 + 2) (by rw [← HD.out]; exact HS.out)] at this
              omega
            | false =>
              have := HST.out
              rw [HBS.out, if_neg (by rw [show Lib.hasPrefix (s.data.toList.drop (k + N2)) [92, 92] = false from hp]; simp)] at this
              have HS : Hid (strH j (s.data.toList.drop k) = some 0) := this
              clear this hp
              go_wp2
              go_ret
              refine ⟨ret_int ?_, HB2.out⟩
              have := HI.out
              rw [HD.out, strE_some (n := 0) (by rw [← HD.out]; exact HS.out)] at this
              omega
          · obtain rfl : N2 = 1 := by omega
            have HBS : Hid (bsl 1 = [92]) := rfl
            clear h12 h02 h02'
            go_wp2_with fail
            refine (hasPrefix _ _ w2).mono ?_
            rintro e w3 ⟨rfl, rfl⟩
            rw [show (s.extract (k + 1) s.size).data.toList = s.data.toList.drop (k + 1) from HX.out]
            cases hp : Lib.hasPrefix (s.data.toList.drop (k + 1)) (ByteArray.data { data := #[92] }).toList with
            | true =>
              have := HST.out
              rw [HBS.out, if_pos hp] at this
              have HS : Hid (strH j (s.data.toList.drop k) = some (1 + 1)) := this
              have hle := strH_le this
              rw [List.length_drop, ← Lib.size_eq] at hle
              clear this hp
              go_wp2
              go_ret
              refine ⟨ret_int ?_, HB2.out⟩
              have := HI.out
              rw [HD.out, strE_some (n := 1 + 1) (by rw [← HD.out]; exact HS.out)] at this
              omega
            | false =>
              have := HST.out
              rw [HBS.out, if_neg (by rw [show Lib.hasPrefix (s.data.toList.drop (k + 1)) [92] = false from hp]; simp)] at this
              have HS : Hid (strH j (s.data.toList.drop k) = some 0) := this
              clear this hp
              go_wp2
              go_ret
              refine ⟨ret_int ?_, HB2.out⟩
              have := HI.out
              rw [HD.out, strE_some (n := 0) (by rw [← HD.out]; exact HS.out)] at this
              omega
        · have h02' : ¬ (0 : Int) < (N2 : Int) := by omega
          have HST : Hid (strH j (s.data.toList.drop k) = if j = true ∧ x = 34 then some 0 else none) := by
            show _ = _
            unfold strH; rw [HN1.out, HN2.out, if_neg h01, if_neg h02, HD.out]; simp
          cases j with
          | false =>
            go_wp2
            go_roundg g
            case measure => omega
            case rel =>
              refine ⟨HB2.out, k + 1, by omega, by go_num, ?_⟩
              have := HI.out
              rw [HD.out, strE_one (by rw [← HD.out, HST.out]; simp) (by simp)] at this
              omega
          | true =>
            by_cases h34 : x.toNat = 34
            · have h34' : ((x.toNat : Int) == 34) = true := by simp; omega
              have H34 : Hid (x = 34) := UInt8.toNat_inj.1 h34
              clear h34
              go_wp2
              go_ret
              refine ⟨ret_int ?_, HB2.out⟩
              have := HI.out
              rw [HD.out, strE_some (n := 0) (by rw [← HD.out, HST.out, H34.out]; simp)] at this
              omega
            · have h34' : ((x.toNat : Int) == 34) = false := by simp; omega
              have H34 : Hid (¬ x = 34) := fun h => h34 (by rw [h]; rfl)
              clear h34
              have HSN : Hid (strH true (s.data.toList.drop k) = none) := by
                show _ = _
                rw [HST.out, if_neg (by intro h; exact H34.out h.2)]
              by_cases h92 : x.toNat = 92
              · have h92' : ((x.toNat : Int) == 92) = true := by simp; omega
                have H92 : Hid (x.toNat = 92) := h92
                clear h92
                by_cases hl : k + 1 < s.size
                · have hl' : ((k : Int) + 1 < (s.size : Int)) := by omega
                  obtain ⟨y, hy⟩ : ∃ y : UInt8, s[k + 1]'(by omega) = y := ⟨_, rfl⟩
                  have hyl : s.data.toList[k + 1]? = some y := by rw [← hy]; exact Lib.data_getElem? s (k + 1) (by omega)
                  have HD2 : Aside (s.data.toList.drop (k + 1) = y :: s.data.toList.drop (k + 1 + 1)) := Lib.drop_at hyl
                  clear hyl hy
                  go_wp2
                  go_roundg (g - 1)
                  case measure => omega
                  case rel =>
                    refine ⟨HB2.out, k + 2, by omega, by go_num, ?_⟩
                    have := HI.out
                    have hn := HSN.out
                    rw [HD.out, HD2.out] at this hn
                    rw [strE_two hn ⟨rfl, H92.out⟩] at this
                    show k + 2 + strE true (s.data.toList.drop (k + 1 + 1)) = E
                    omega
                · have hl' : (k : Int) + 1 = (s.size : Int) := by omega
                  have HL : Hid ((k : Int) + 1 = (s.size : Int)) := hl'
                  go_wp2
                  go_roundg g
                  case measure => omega
                  case rel =>
                    refine ⟨HB2.out, k + 1, by omega, by have := HL.out; congr 1; omega, ?_⟩
                    have := HI.out
                    have hn := HSN.out
                    have e0 : s.data.toList.drop (k + 1) = [] := List.drop_eq_nil_of_le (by rw [← Lib.size_eq]; omega)
                    rw [HD.out, e0] at this hn
                    rw [strE_last hn] at this
                    rw [e0, strE_nil]
                    omega
              · have h92' : ((x.toNat : Int) == 92) = false := by simp; omega
                have H92 : Hid (¬ x.toNat = 92) := h92
                clear h92
                go_wp2
                go_roundg g
                case measure => omega
                case rel =>
                  refine ⟨HB2.out, k + 1, by omega, by go_num, ?_⟩
                  have := HI.out
                  rw [HD.out, strE_one (by rw [← HD.out]; exact HSN.out) (by intro h; exact H92.out h.2)] at this
                  omega

theorem zzStringEnd (s : ByteArray) (i : Nat) (j : Bool) (w : World) (hs : s.size < 4294967281) (hF : Folds w) (hi : i ≤ s.size) :
    Calls Tryd.prog 14 #[.string s, .int .i64 i, .bool j] w fun e w' => e = .returned (.int .i64 ((i + strE j (s.data.toList.drop i) : Nat) : Int)) ∧ Below w.heap.size w w' := by
  have HF : Aside (Folds w) := hF
  clear hF
  go_enter Tryd.func14, Tryd.ntmps14
  go_wp2_with fail
  refine (stringEnd s i j w hs HF.out hi).mono ?_
  rintro e w' ⟨rfl, hb⟩
  go_wp2
  go_ret
  exact ⟨ret_int (by omega), hb⟩
end Go.Proofs.Qxb6603183aDoor
