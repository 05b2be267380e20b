/-
  The walk of containsFold.
-/
import Derived.Test.Qxb6603183aDoorCtl
import Derived.Test.Qxb6603183aDoorStripP
import Derived.Test.Qxb6603183aDoorShelf
namespace Go.Proofs.Qxb6603183aDoor
set_option maxRecDepth 1000000
open Go.RowKit Go.Lib

theorem index_none : ∀ (l : List UInt8) (c : UInt8), Lib.indexByte l c = -1 → ∀ b ∈ l, b ≠ c
  | [], _, _, b, hb => by cases hb
  | x :: l, c, h, b, hb => by
    have hg := Lib.indexByte_ge l c
    unfold Lib.indexByte at h
    split at h
    · cases h
    · rename_i hx
      split at h
      · rename_i hl
        rcases List.mem_cons.1 hb with rfl | hb
        · intro e; rw [e] at hx; simp at hx
        · exact index_none l c (by simpa using hl) b hb
      · omega
theorem index_some : ∀ (l : List UInt8) (c : UInt8) (k : Nat), Lib.indexByte l c = (k : Int) → l[k]? = some c ∧ ∀ b ∈ l.take k, b ≠ c
  | [], _, k, h => by simp [Lib.indexByte] at h
  | x :: l, c, k, h => by
    have hg := Lib.indexByte_ge l c
    unfold Lib.indexByte at h
    split at h
    · rename_i hx
      obtain rfl : k = 0 := by omega
      exact ⟨by simpa using hx, fun b hb => by simp at hb⟩
    · rename_i hx
      split at h
      · omega
      · rename_i hl
        have hl' : Lib.indexByte l c ≠ -1 := by simpa using hl
        obtain ⟨m, rfl⟩ : ∃ m, k = m + 1 := ⟨k - 1, by omega⟩
        obtain ⟨h1, h2⟩ := index_some l c m (by omega)
        refine ⟨by simpa using h1, fun b hb => ?_⟩
        rw [List.take_succ_cons] at hb
        rcases List.mem_cons.1 hb with rfl | hb
        · intro e; rw [e] at hx; simp at hx
        · exact h2 b hb
theorem cF_plain (p : List UInt8) : ∀ (a l : List UInt8), (∀ b ∈ a, b ≠ 92) → cF p (a ++ l) = cF p l
  | [], _, _ => rfl
  | c :: a, l, h => by
    have hc : ¬ c.toNat = 92 := fun e => h c (by simp) (UInt8.toNat_inj.1 e)
    rw [List.cons_append, cF, decide_eq_false hc, Bool.false_and, Bool.false_or, cF_plain p a l (fun b hb => h b (by simp [hb]))]
theorem cF_none (p l : List UInt8) (h : Lib.indexByte l 92 = -1) : cF p l = false := by
  have := cF_plain p l [] (index_none l 92 h)
  rw [List.append_nil] at this
  rw [this]; rfl
theorem cF_some (p l : List UInt8) (k : Nat) (h : Lib.indexByte l 92 = (k : Int)) : cF p l = cF p (l.drop k) := by
  have := cF_plain p (l.take k) (l.drop k) (index_some l 92 k h).2
  rwa [List.take_append_drop] at this

set_option maxHeartbeats 2000000 in
theorem containsFold (s p : ByteArray) (w : World) (hs : s.size < 4294967281) (hF : Folds w) (hp : Lits p) :
    Calls Tryd.prog 24 #[.string s, .string p] w fun e w' => e = .returned (.bool (cF p.data.toList s.data.toList)) ∧ Below w.heap.size w w' := by
  have HF : Aside (Folds w) := hF
  have HP : Aside (Lits p) := hp
  clear hF hp
  obtain ⟨R, hR⟩ : ∃ R, cF p.data.toList s.data.toList = R := ⟨_, rfl⟩
  rw [hR]
  have HR : Hid (cF p.data.toList s.data.toList = R) := hR
  clear hR
  have hg := Lib.indexByte_ge s.data.toList 92
  go_enter Tryd.func24, Tryd.ntmps24
  go_wp2_with fail
  refine (Tryd.strings_IndexByte s 92 w).mono ?_
  rintro e w1 ⟨rfl, rfl⟩
  rw [show (92 : Int).toNat.toUInt8 = 92 from rfl]
  obtain ⟨I, hI⟩ : ∃ I, Lib.indexByte s.data.toList 92 = I := ⟨_, rfl⟩
  rw [hI] at hg ⊢
  have HI0 : Hid (Lib.indexByte s.data.toList 92 = I) := hI
  clear hI
  go_wp2_with fail
  go_loopg [5] (s.size) (fun g s5 wx => Below w1.heap.size w1 wx ∧ ((s5 = .int .i64 (-1) ∧ R = false) ∨ ∃ k : Nat, k < s.size ∧ s.size - k ≤ g ∧ s5 = .int .i64 k ∧ s.data.toList[k]? = some 92 ∧ cF p.data.toList (s.data.toList.drop k) = R))
  case atStart =>
    refine ⟨Below.refl _ _, ?_⟩
    by_cases h0 : I = -1
    · left
      exact ⟨by rw [h0], by rw [← HR.out]; exact cF_none _ _ (by rw [HI0.out, h0])⟩
    · right
      obtain ⟨k, rfl⟩ : ∃ k : Nat, I = k := ⟨I.toNat, by omega⟩
      have h1 := index_some _ _ _ HI0.out
      have h2 : k < s.size := by rw [Lib.size_eq]; exact (List.getElem?_eq_some_iff.1 h1.1).1
      exact ⟨k, h2, by omega, rfl, h1.1, by rw [← cF_some _ _ _ HI0.out, HR.out]⟩
  case round =>
    obtain ⟨hB, hor⟩ := hrel
    have HB : Aside (Below w1.heap.size w1 wr) := hB
    have HFr : Aside (Folds wr) := HF.out.below hB
    clear hB
    rcases hor with ⟨rfl, hRf⟩ | ⟨k, hk, hgk, rfl, h92, hinv⟩
    · have HRf : Hid (R = false) := hRf
      clear hRf
      go_wp2
      go_ret
      exact ⟨ret_bool HRf.out.symm, HB.out⟩
    · have HI : Aside (cF p.data.toList (s.data.toList.drop k) = R) := hinv
      have HD : Aside (s.data.toList.drop k = 92 :: s.data.toList.drop (k + 1)) := Lib.drop_at h92
      clear hinv h92
      have h0 : (s.extract k s.size).size < 4294967281 := by simp; omega
      have hks : ((k : Int) < (s.size : Int)) := by omega
      have hk1 : ((k : Int) + 1 ≤ (s.size : Int)) := by omega
      go_wp2_with fail
      refine (hasPrefixFold _ p wr h0 HFr.out HP.out).mono ?_
      rintro e w2 ⟨rfl, hb⟩
      rw [Lib.extract_to_end]
      have HB2 : Aside (Below w1.heap.size w1 w2) := HB.out.trans (hb.mono HB.out.size)
      clear hb
      cases hh : hpf (s.data.toList.drop k) p.data.toList with
      | true =>
        have HH : Hid (R = true) := by
          show _ = _
          rw [← HI.out, HD.out, cF, ← HD.out, hh]; rfl
        clear hh
        go_wp2
        go_ret
        exact ⟨ret_bool HH.out.symm, HB2.out⟩
      | false =>
        have HH : Hid (cF p.data.toList (s.data.toList.drop (k + 1)) = R) := by
          show _ = _
          rw [← HI.out, HD.out, cF, ← HD.out, hh, Bool.and_false, Bool.false_or]
        clear hh
        have hg2 := Lib.indexByte_ge (s.data.toList.drop (k + 1)) 92
        obtain ⟨J, hJ⟩ : ∃ J, Lib.indexByte (s.data.toList.drop (k + 1)) 92 = J := ⟨_, rfl⟩
        rw [hJ] at hg2
        have HJ : Hid (Lib.indexByte (s.data.toList.drop (k + 1)) 92 = J) := hJ
        clear hJ
        go_wp2_with fail
        refine (Tryd.strings_IndexByte _ 92 w2).mono ?_
        rintro e w3 ⟨rfl, rfl⟩
        rw [show (92 : Int).toNat.toUInt8 = 92 from rfl, Lib.extract_to_end, HJ.out]
        by_cases h0 : J = -1
        · have HN : Hid (R = false) := by
            show _ = _
            rw [← HH.out]; exact cF_none _ _ (by rw [HJ.out, h0])
          subst h0
          go_wp2
          go_ret
          exact ⟨ret_bool HN.out.symm, HB2.out⟩
        · obtain ⟨m, rfl⟩ : ∃ m : Nat, J = m := ⟨J.toNat, by omega⟩
          have h1 := index_some _ _ _ HJ.out
          have h2 : m < s.size - (k + 1) := by
            have := (List.getElem?_eq_some_iff.1 h1.1).1
            rwa [List.length_drop, ← Lib.size_eq] at this
          have h3 := h1.1
          rw [List.getElem?_drop] at h3
          have H3 : Aside (s.data.toList[k + 1 + m]? = some 92) := h3
          have H4 : Aside (cF p.data.toList (s.data.toList.drop (k + 1 + m)) = R) := by
            show _ = _
            rw [← HH.out, cF_some _ _ _ HJ.out, List.drop_drop]
          clear h1 h3 h0
          have hm0 : ¬ ((m : Int) < 0) := by omega
          go_wp2
          go_roundg (s.size - (k + 1 + m))
          case measure => omega
          case rel => exact ⟨HB2.out, Or.inr ⟨k + 1 + m, by omega, by omega, by congr 1; omega, H3.out, H4.out⟩⟩
end Go.Proofs.Qxb6603183aDoor
