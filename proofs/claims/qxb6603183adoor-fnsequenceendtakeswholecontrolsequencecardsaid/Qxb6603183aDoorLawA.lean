/-
  The walk of the law FnStringEndLooksOnlyAhead.
-/
import Derived.Test.Qxb6603183aDoorStr
namespace Go.Proofs.Qxb6603183aDoor
set_option maxRecDepth 1000000
open Go.RowKit Go.Lib

theorem drop_append (p s : ByteArray) (i : Nat) : (p ++ s).data.toList.drop (p.size + i) = s.data.toList.drop i := by
  have e : (p ++ s).data.toList = p.data.toList ++ s.data.toList := by
    show (p.append s).data.toList = _
    simp
  rw [e, Lib.size_eq, ← List.drop_drop]
  simp

theorem zzBytesA (p s : ByteArray) (i : Value) (j : Value) (w : World) (h1 : p.size ≤ 524288) (h2 : s.size ≤ 524288) :
    Calls Tryd.prog 16 #[.string p, .string s, i, j] w fun e w' => e = .returned (.bool true) ∧ w' = w := by
  go_enter Tryd.func16, Tryd.ntmps16
  go_wp2
  go_ret
  exact ⟨rfl, rfl⟩

set_option maxHeartbeats 2000000 in
theorem lawA (p s : ByteArray) (i : Int) (j : Bool) (w : World) (hp : p.size ≤ maxLen) (hs : s.size ≤ maxLen) (hF : Folds w) :
    Calls Tryd.prog 6 #[.string p, .string s, .int .i64 i, .bool j] w fun e w' => e = .returned (.bool true) ∧ Below w.heap.size w w' := by
  unfold maxLen at hp hs
  have HF : Aside (Folds w) := hF
  clear hF
  by_cases h : p.size ≤ 524288 ∧ s.size ≤ 524288 ∧ 0 ≤ i ∧ i ≤ s.size
  · obtain ⟨h1, h2, h3, h4⟩ := h
    obtain ⟨n, rfl⟩ : ∃ n : Nat, i = n := ⟨i.toNat, by omega⟩
    have hns : n ≤ s.size := by omega
    go_enter Tryd.func6, Tryd.ntmps6
    go_wp2_with fail
    refine (zzBytesA p s _ _ w h1 h2).mono ?_
    rintro e w' ⟨rfl, rfl⟩
    go_wp2_with fail
    refine (zzStringEnd s n j _ (by omega) HF.out hns).mono ?_
    rintro e w1 ⟨rfl, hb1⟩
    have hle := strE_le j (s.data.toList.drop n)
    rw [List.length_drop, ← Lib.size_eq] at hle
    obtain ⟨E, hE⟩ : ∃ E, strE j (s.data.toList.drop n) = E := ⟨_, rfl⟩
    have HE : Hid (strE j (s.data.toList.drop n) = E) := hE
    rw [hE] at hle ⊢
    clear hE
    have HB1 : Aside (Below w'.heap.size w' w1) := hb1
    clear hb1
    have hF1 : Aside (Folds w1) := HF.out.below HB1.out
    go_wp2_with fail
    rw [show ((p.size : Int) + (n : Int)) = ((p.size + n : Nat) : Int) from by omega]
    have hsz : (p ++ s).size = p.size + s.size := ByteArray.size_append
    refine (zzStringEnd (p ++ s) (p.size + n) j w1 (by omega) hF1.out (by omega)).mono ?_
    rintro e w2 ⟨rfl, hb2⟩
    rw [drop_append, HE.out]
    have HB2 : Aside (Below w'.heap.size w' w2) := HB1.out.trans (hb2.mono HB1.out.size)
    clear hb2 hsz
    have hq : (p.size : Int) + (n : Int) + (E : Int) == (p.size : Int) + ((n : Int) + (E : Int)) := by simp; omega
    go_wp2
    go_ret
    exact ⟨rfl, HB2.out⟩
  · go_enter Tryd.func6, Tryd.ntmps6
    go_wp2
    all_goals (go_ret; exact ⟨rfl, Below.refl _ _⟩)
end Go.Proofs.Qxb6603183aDoor
