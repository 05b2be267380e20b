/-
  The walk of the law FnStripPassesPlainPrefix.
-/
import Derived.Test.Qxb6603183aDoorStrip
namespace Go.Proofs.Qxb6603183aDoor
set_option maxRecDepth 1000000
open Go.RowKit Go.Lib

theorem zzBytesD (p s : ByteArray) (w : World) (h1 : p.size ≤ 524288) (h2 : s.size ≤ 524288) :
    Calls Tryd.prog 19 #[.string p, .string s] w fun e w' => e = .returned (.bool true) ∧ w' = w := by
  go_enter Tryd.func19, Tryd.ntmps19
  go_wp2
  go_ret
  exact ⟨rfl, rfl⟩

set_option maxHeartbeats 2000000 in
theorem lawD_far (t u : ByteArray) (w : World) (ht : t.size ≤ maxLen) (hu : u.size ≤ maxLen) (h : ¬ (t.size ≤ 524288 ∧ u.size ≤ 524288)) :
    Calls Tryd.prog 8 #[.string t, .string u] w fun e w' => e = .returned (.bool true) ∧ Below w.heap.size w w' := by
  unfold maxLen at ht hu
  by_cases h1 : t.size ≤ 524288
  · have h2 : 524288 < u.size := by omega
    clear h
    go_enter Tryd.func8, Tryd.ntmps8
    go_wp2
    all_goals (go_ret; exact ⟨rfl, Below.refl _ _⟩)
  · have h2 : 524288 < t.size := by omega
    clear h h1
    go_enter Tryd.func8, Tryd.ntmps8
    go_wp2
    all_goals (go_ret; exact ⟨rfl, Below.refl _ _⟩)

theorem append_list (a b : ByteArray) : (a ++ b).data.toList = a.data.toList ++ b.data.toList := by
  show (a.append b).data.toList = _
  simp

set_option maxHeartbeats 2000000 in
theorem lawD (t u : ByteArray) (w : World) (ht : t.size ≤ maxLen) (hu : u.size ≤ maxLen) (hF : Folds w) :
    Calls Tryd.prog 8 #[.string t, .string u] w fun e w' => e = .returned (.bool true) ∧ Below w.heap.size w w' := by
  by_cases h : t.size ≤ 524288 ∧ u.size ≤ 524288
  · obtain ⟨h1, h2⟩ := h
    have HF : Aside (Folds w) := hF
    clear hF ht hu
    go_enter Tryd.func8, Tryd.ntmps8
    go_wp2_with fail
    refine (zzBytesD t u w h1 h2).mono ?_
    rintro e w' ⟨rfl, rfl⟩
    go_wp2_with fail
    go_loopg [5] t.size (fun g s9 wx => w' = wx ∧ ∃ k : Nat, g + k = t.size ∧ s9 = .int .i64 k ∧ ∀ b ∈ t.data.toList.take k, b.toNat ≠ 27 ∧ b.toNat ≠ 92)
    case atStart => exact ⟨rfl, 0, by omega, rfl, fun b hb => by simp at hb⟩
    case round =>
      obtain ⟨rfl, k, hk, rfl, hinv⟩ := hrel
      have HI : Aside (∀ b ∈ t.data.toList.take k, b.toNat ≠ 27 ∧ b.toNat ≠ 92) := hinv
      clear hinv
      cases gk with
      | zero =>
        have hks : ¬ ((k : Int) < (t.size : Int)) := by omega
        have HA : Aside (∀ b ∈ t.data.toList, b.toNat ≠ 27 ∧ b.toNat ≠ 92) := by
          have := HI.out
          rw [List.take_of_length_le (by rw [← Lib.size_eq]; omega)] at this
          exact this
        have hsz : (t ++ u).size < 4294967281 := by rw [ByteArray.size_append]; omega
        go_wp2_with fail
        refine (stripW (t ++ u) w' hsz HF.out).mono ?_
        rintro e w1 ⟨rfl, hb1⟩
        have HB1 : Aside (Below w'.heap.size w' w1) := hb1
        have HF1 : Aside (Folds w1) := HF.out.below hb1
        clear hb1
        obtain ⟨S1, hS1⟩ : ∃ S : ByteArray, (⟨(strip (t ++ u).data.toList).toArray⟩ : ByteArray) = S := ⟨_, rfl⟩
        have HS1 : Hid ((⟨(strip (t ++ u).data.toList).toArray⟩ : ByteArray) = S1) := hS1
        rw [hS1]
        clear hS1
        go_wp2_with fail
        refine (stripW u w1 (by omega) HF1.out).mono ?_
        rintro e w2 ⟨rfl, hb2⟩
        have HB2 : Aside (Below w'.heap.size w' w2) := HB1.out.trans (hb2.mono HB1.out.size)
        clear hb2
        obtain ⟨S2, hS2⟩ : ∃ S : ByteArray, (⟨(strip u.data.toList).toArray⟩ : ByteArray) = S := ⟨_, rfl⟩
        have HS2 : Hid ((⟨(strip u.data.toList).toArray⟩ : ByteArray) = S2) := hS2
        rw [hS2]
        clear hS2
        have hq : (S1.toList == (t ++ S2).toList) = true := by
          rw [Lib.toList_data, Lib.toList_data, append_list, ← HS1.out, ← HS2.out]
          have := strip_append t.data.toList u.data.toList HA.out
          simp only [append_list, this, beq_self_eq_true]
        have hS2s : S2.size ≤ 524288 := by
          rw [← HS2.out, Lib.size_eq]
          have := (strip_sub u.data.toList).length_le
          rw [← Lib.size_eq] at this
          simpa using Nat.le_trans this h2
        go_wp2
        go_ret
        exact ⟨rfl, HB2.out⟩
      | succ g =>
        have hks : ((k : Int) < (t.size : Int)) := by omega
        have hkn : k < t.size := by omega
        obtain ⟨x, hx⟩ : ∃ x : UInt8, t[k]'(by omega) = x := ⟨_, rfl⟩
        have hxl : t.data.toList[k]? = some x := by rw [← hx]; exact Lib.data_getElem? t k (by omega)
        have HT : Aside (t.data.toList.take (k + 1) = t.data.toList.take k ++ [x]) := by
          show _ = _
          rw [List.take_add_one, hxl]; rfl
        clear hxl
        by_cases h3 : x.toNat = 27
        · have h3' : ((x.toNat : Int) == 27) = true := by simp; omega
          clear h3
          go_wp2
          all_goals (go_ret; exact ⟨rfl, Below.refl _ _⟩)
        · have h3' : ((x.toNat : Int) == 27) = false := by simp; omega
          by_cases h5 : x.toNat = 92
          · have h5' : ((x.toNat : Int) == 92) = true := by simp; omega
            clear h3 h5
            go_wp2
            all_goals (go_ret; exact ⟨rfl, Below.refl _ _⟩)
          · have h5' : ((x.toNat : Int) == 92) = false := by simp; omega
            have H : Aside (x.toNat ≠ 27 ∧ x.toNat ≠ 92) := ⟨h3, h5⟩
            clear h3 h5
            go_wp2
            go_roundg g
            case measure => omega
            case rel =>
              refine ⟨rfl, k + 1, by omega, by go_num, fun b hb => ?_⟩
              rw [HT.out, List.mem_append] at hb
              rcases hb with hb | hb
              · exact HI.out b hb
              · rw [List.mem_singleton] at hb
                rw [hb]; exact H.out
  · exact lawD_far t u w ht hu h
end Go.Proofs.Qxb6603183aDoor
