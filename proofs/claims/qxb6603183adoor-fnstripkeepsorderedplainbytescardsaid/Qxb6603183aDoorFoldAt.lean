/-
  The walks of lowerASCIIB1 and foldAtB1.
-/
import Derived.Test.Qxb6603183aDoorFold
import Derived.Test.Qxb6603183aDoorStripP
import Derived.Deep.QuietTactic
import Derived.BigQuiet
namespace Go.Proofs.Qxb6603183aDoor
set_option maxRecDepth 1000000
open Go.RowKit Go.Lib

theorem lowerW (c : UInt8) (w : World) : Calls Tryd.prog 21 #[.int .u8 (c.toNat : Int)] w fun e w' => e = .returned (.int .u8 (lowerN c : Int)) ∧ w' = w := by
  have h256 := c.toNat_lt
  by_cases h1 : 65 ≤ c.toNat
  · have h1' : (65 : Int) ≤ (c.toNat : Int) := by omega
    by_cases h2 : c.toNat ≤ 90
    · have h2' : (c.toNat : Int) ≤ 90 := by omega
      have HL : Hid (lowerN c = c.toNat + 32) := if_pos ⟨h1, h2⟩
      clear h1 h2
      go_enter Tryd.func21, Tryd.ntmps21
      go_wp2
      go_ret
      exact ⟨ret_int (by rw [HL.out]; omega), rfl⟩
    · have h2' : ¬ (c.toNat : Int) ≤ 90 := by omega
      have HL : Hid (lowerN c = c.toNat) := if_neg (by omega)
      clear h1 h2
      go_enter Tryd.func21, Tryd.ntmps21
      go_wp2
      go_ret
      exact ⟨ret_int (by rw [HL.out]), rfl⟩
  · have h1' : ¬ (65 : Int) ≤ (c.toNat : Int) := by omega
    have HL : Hid (lowerN c = c.toNat) := if_neg (by omega)
    clear h1
    go_enter Tryd.func21, Tryd.ntmps21
    go_wp2
    go_ret
    exact ⟨ret_int (by rw [HL.out]), rfl⟩

theorem foldAt_short : ∀ (l p : List UInt8), l.length < p.length → foldAt l p = false
  | l, [], h => by simp at h
  | [], _ :: _, _ => rfl
  | x :: l, y :: p, h => by
    simp only [List.length_cons] at h
    simp only [foldAt, foldAt_short l p (by omega), Bool.and_false]

set_option maxHeartbeats 2000000 in
theorem foldAtW (s p : ByteArray) (i : Nat) (w : World) (hs : s.size < 4294967281) (hi : i ≤ s.size) (hp : p.size ≤ 100) :
    Calls Tryd.prog 13 #[.string s, .int .i64 i, .string p] w fun e w' => e = .returned (.bool (foldAt (s.data.toList.drop i) p.data.toList)) ∧ Below w.heap.size w w' := by
  obtain ⟨R, hR⟩ : ∃ R, foldAt (s.data.toList.drop i) p.data.toList = R := ⟨_, rfl⟩
  rw [hR]
  have HR : Hid (foldAt (s.data.toList.drop i) p.data.toList = R) := hR
  clear hR
  have hi0 : ¬ ((i : Int) < 0) := by omega
  have hi1 : ¬ ((s.size : Int) < (i : Int)) := by omega
  by_cases hsh : s.size - i < p.size
  · have hsh' : (s.size : Int) - (i : Int) < (p.size : Int) := by omega
    go_enter Tryd.func13, Tryd.ntmps13
    go_wp2
    go_ret
    refine ⟨ret_bool ?_, Below.refl _ _⟩
    rw [← HR.out, foldAt_short _ _ (by rw [List.length_drop, ← Lib.size_eq, ← Lib.size_eq]; omega)]
  · have hsh' : ¬ (s.size : Int) - (i : Int) < (p.size : Int) := by omega
    go_enter Tryd.func13, Tryd.ntmps13
    go_wp2_with fail
    go_loopg [7] p.size (fun g s7 wx => Below w.heap.size w wx ∧ ∃ k : Nat, g + k = p.size ∧ s7 = .int .i64 k ∧ foldAt (s.data.toList.drop (i + k)) (p.data.toList.drop k) = R)
    case atStart => exact ⟨Below.refl _ _, 0, by omega, rfl, HR.out⟩
    case round =>
      obtain ⟨hB, k, hk, rfl, hinv⟩ := hrel
      have HI : Aside (foldAt (s.data.toList.drop (i + k)) (p.data.toList.drop k) = R) := hinv
      have HB : Aside (Below w.heap.size w wr) := hB
      clear hinv hB
      cases gk with
      | zero =>
        have hks : ¬ ((k : Int) < (p.size : Int)) := by omega
        go_wp2
        go_ret
        refine ⟨ret_bool ?_, HB.out⟩
        have := HI.out
        have e0 : p.data.toList.drop k = [] := List.drop_eq_nil_of_le (by rw [← Lib.size_eq]; omega)
        rw [e0] at this
        rw [← this]; cases s.data.toList.drop (i + k) <;> rfl
      | succ g =>
        have hks : ((k : Int) < (p.size : Int)) := by omega
        have hik : ((i : Int) + (k : Int) < (s.size : Int)) := by omega
        obtain ⟨x, hx⟩ : ∃ x : UInt8, s[i + k]'(by omega) = x := ⟨_, rfl⟩
        obtain ⟨y, hy⟩ : ∃ y : UInt8, p[k]'(by omega) = y := ⟨_, rfl⟩
        have hxl : s.data.toList[i + k]? = some x := by rw [← hx]; exact Lib.data_getElem? s (i + k) (by omega)
        have hyl : p.data.toList[k]? = some y := by rw [← hy]; exact Lib.data_getElem? p k (by omega)
        have HD : Aside (s.data.toList.drop (i + k) = x :: s.data.toList.drop (i + k + 1) ∧ p.data.toList.drop k = y :: p.data.toList.drop (k + 1)) := ⟨Lib.drop_at hxl, Lib.drop_at hyl⟩
        clear hxl hyl
        have hwr : IntKind.i64.wrap ((i : Int) + (k : Int)) = (i : Int) + (k : Int) := by rw [IntKind.wrap_i64]; omega
        have htn : ((i : Int) + (k : Int)).toNat = i + k := by omega
        by_cases hne : lowerN x = y.toNat
        · have hne' : ((lowerN x : Int) != (y.toNat : Int)) = false := by simp; omega
          have HN : Hid (lowerN x = y.toNat) := hne
          clear hne
          go_wp2_with fail
          go_quiet ((go_at_call 21; exact Calls.quiet_of_same (lowerW _ _)))
          go_wp2
          go_roundg g
          case measure => omega
          case rel =>
            refine ⟨below_drewN HB.out _, k + 1, by omega, by go_num, ?_⟩
            have := HI.out
            rw [HD.out.1, HD.out.2, foldAt, decide_eq_true HN.out, Bool.true_and] at this
            exact this
        · have hne' : ((lowerN x : Int) != (y.toNat : Int)) = true := by simp; omega
          have HN : Hid (¬ lowerN x = y.toNat) := hne
          clear hne
          go_wp2_with fail
          go_quiet ((go_at_call 21; exact Calls.quiet_of_same (lowerW _ _)))
          go_wp2
          go_ret
          refine ⟨ret_bool ?_, below_drewN HB.out _⟩
          have := HI.out
          rw [HD.out.1, HD.out.2, foldAt, decide_eq_false HN.out, Bool.false_and] at this
          exact this
end Go.Proofs.Qxb6603183aDoor
