/-
  The walk of Strip.
-/
import Derived.Test.Qxb6603183aDoorCont
import Derived.Test.Qxb6603183aDoorSeqAll
namespace Go.Proofs.Qxb6603183aDoor
set_option maxRecDepth 1000000
open Go.RowKit Go.Lib

theorem builder_below {T e : TypeId} {B b : Nat} {p : Value} {bs : List Value} {w w' : World} (h : Lib.BuilderAt T e B b p bs w) (hb : Below w.heap.size w w') : Lib.BuilderAt T e B b p bs w' := by
  obtain ⟨h1, v, h2, ⟨h3, h4⟩, h5⟩ := h
  have hlt : ∀ k o, w.heap[k]? = some o → w'.heap[k]? = some o := fun k o hk => (hb.block k (Array.getElem?_eq_some_iff.1 hk).1).trans hk
  refine ⟨h1, v, hlt _ _ h2, ⟨h3, ?_⟩, h5⟩
  rcases h4 with h4 | ⟨g, cap, cur, a1, a2, a3, a4⟩
  · exact Or.inl h4
  · exact Or.inr ⟨g, cap, cur, a1, a2, hlt _ _ a3, a4⟩

set_option maxHeartbeats 2000000 in
/-- The loop and the end, where an ESC stands. -/
theorem strip_loop (s : ByteArray) (w : World) (hs : s.size < 4294967281) (hF : Folds w) (J : Int) (hJ : Lib.indexByte s.data.toList 27 = J) (hcase : 0 ≤ J ∨ (J = -1 ∧ cF escL s.data.toList = true)) :
    Calls Tryd.prog 18 #[.string s] w fun e w' => e = .returned (.string ⟨(strip s.data.toList).toArray⟩) ∧ Below w.heap.size w w' := by
  have HF : Aside (Folds w) := hF
  have HJ : Aside (Lib.indexByte s.data.toList 27 = J) := hJ
  clear hF hJ
  rcases hcase with h0 | ⟨rfl, hc⟩
  · go_enter Tryd.func18, Tryd.ntmps18
    go_wp2_with fail
    refine (Tryd.strings_IndexByte s 27 w).mono ?_
    rintro e w1 ⟨rfl, rfl⟩
    rw [show (27 : Int).toNat.toUInt8 = 27 from rfl, HJ.out]
    obtain ⟨w2, hw2⟩ : ∃ w2, w1 = w2 := ⟨_, rfl⟩
    have HB0 : Aside (Below w1.heap.size w1 w2) := by rw [← hw2]; exact Below.refl _ _
    have HF2 : Aside (Folds w2) := by rw [← hw2]; exact HF.out
    have HW : Hid (w1 = w2) := hw2
    rw [hw2]
    clear hw2

    have hbk : (w2.alloc (.cells #[.pointer none, .slice none 0 0] 35)).heap[w2.heap.size]? = some (.cells #[.pointer none, .slice none 0 0] 35 (0, 0)) := by
      show (w2.heap.push _)[w2.heap.size]? = _
      simp
    have HBK : Aside ((w2.alloc (.cells #[.pointer none, .slice none 0 0] 35)).heap[w2.heap.size]? = some (.cells #[.pointer none, .slice none 0 0] 35 (0, 0))) := hbk
    clear hbk
    go_wp2_with fail
    refine (Tryd.Builder_Grow_fresh w2.heap.size w2.heap.size s.size _ (Nat.le_refl _) HBK.out (by simp) (by omega)).mono ?_
    rintro e w3 ⟨rfl, hbu, hb3⟩
    have HBu : Aside (Lib.BuilderAt 35 5 w2.heap.size w2.heap.size (.pointer (some ⟨w2.heap.size, 0, none⟩)) [] w3) := hbu
    have HB3 : Aside (Below w2.heap.size w2 w3) := ((Below.refl _ _).alloc (Nat.le_refl _) _).trans hb3
    clear hbu hb3
    go_wp2_with fail
    go_loopg [4] (s.size) (fun g s4 wx => Below w2.heap.size w2 wx ∧ ∃ (k : Nat) (out : List UInt8), g + k = s.size ∧ s4 = .int .i64 k ∧ out.length ≤ k ∧ out ++ strip (s.data.toList.drop k) = strip s.data.toList ∧ Lib.BuilderAt 35 5 w2.heap.size w2.heap.size (.pointer (some ⟨w2.heap.size, 0, none⟩)) (Lib.byteCells out) wx)
    case atStart => exact ⟨HB3.out, 0, [], by omega, rfl, Nat.le_refl _, rfl, HBu.out⟩
    case round =>
      obtain ⟨hB, k, out, hk, rfl, hol, hinv, hbu⟩ := hrel
      have HI : Aside (out ++ strip (s.data.toList.drop k) = strip s.data.toList) := hinv
      have HBr : Aside (Below w2.heap.size w2 wr) := hB
      have HBb : Aside (Lib.BuilderAt 35 5 w2.heap.size w2.heap.size (.pointer (some ⟨w2.heap.size, 0, none⟩)) (Lib.byteCells out) wr) := hbu
      have HFr : Aside (Folds wr) := HF2.out.below hB
      clear hinv hB hbu
      cases gk with
      | zero =>
        have hks : ¬ ((k : Int) < (s.size : Int)) := by omega
        go_wp2_with fail
        refine (Tryd.Builder_String_any w2.heap.size w2.heap.size out wr (Or.inr HBb.out) HBr.out.size).mono ?_
        rintro e w4 ⟨rfl, hb4⟩
        have HB4 : Aside (Below w1.heap.size w1 w4) := HB0.out.trans ((HBr.out.trans hb4).mono HB0.out.size)
        clear hb4
        go_wp2
        go_ret
        refine ⟨?_, HB4.out⟩
        have := HI.out
        rw [List.drop_eq_nil_of_le (by rw [← Lib.size_eq]; omega), strip_nil, List.append_nil] at this
        rw [← this]; rfl
      | succ g =>
        have hks : ((k : Int) < (s.size : Int)) := by omega
        have hkn : k < s.size := by omega
        obtain ⟨x, hx⟩ : ∃ x : UInt8, s[k]'(by omega) = x := ⟨_, rfl⟩
        have hxl : s.data.toList[k]? = some x := by rw [← hx]; exact Lib.data_getElem? s k (by omega)
        have HD : Aside (s.data.toList.drop k = x :: s.data.toList.drop (k + 1)) := Lib.drop_at hxl
        have hlen : (s.data.toList.drop k).length = s.size - k := by rw [List.length_drop, ← Lib.size_eq]
        have hN : escN (s.data.toList.drop k) ≤ s.size - k := by rw [← hlen]; exact ctl_le _ _ _
        obtain ⟨N, hNN⟩ : ∃ N, escN (s.data.toList.drop k) = N := ⟨_, rfl⟩
        rw [hNN] at hN
        have HN : Hid (escN (s.data.toList.drop k) = N) := hNN
        clear hNN hxl hlen
        go_wp2_with fail
        refine (escAt s k wr hs HFr.out hkn).mono ?_
        rintro e w4 ⟨rfl, hb4⟩
        rw [HN.out]
        have HB4 : Aside (Below w2.heap.size w2 w4) := HBr.out.trans (hb4.mono HBr.out.size)
        have HBu4 : Aside (Lib.BuilderAt 35 5 w2.heap.size w2.heap.size (.pointer (some ⟨w2.heap.size, 0, none⟩)) (Lib.byteCells out) w4) := builder_below HBb.out hb4
        have HF4 : Aside (Folds w4) := HFr.out.below hb4
        clear hb4
        by_cases hN0 : N = 0
        · subst hN0
          go_wp2_with fail
          refine (Tryd.Builder_WriteByte w2.heap.size w2.heap.size (Lib.byteCells out) (x.toNat : Int) w4 (Or.inr HBu4.out) (by rw [Lib.byteCells_length]; omega) HB4.out.size).mono ?_
          rintro e w5 ⟨rfl, hbu5, hb5⟩
          have HB5 : Aside (Below w2.heap.size w2 w5) := HB4.out.trans hb5
          have HBu5 : Aside (Lib.BuilderAt 35 5 w2.heap.size w2.heap.size (.pointer (some ⟨w2.heap.size, 0, none⟩)) (Lib.byteCells (out ++ [x])) w5) := by
            have e : Lib.byteCells (out ++ [x]) = Lib.byteCells out ++ [.int .u8 (x.toNat : Int)] := by simp [Lib.byteCells]
            show Lib.BuilderAt _ _ _ _ _ _ _
            rw [e]; exact hbu5
          clear hb5 hbu5
          go_wp2
          go_roundg g
          case measure => omega
          case rel =>
            refine ⟨HB5.out, k + 1, out ++ [x], by omega, by go_num, by simp; omega, ?_, HBu5.out⟩
            have h1 := HN.out
            rw [HD.out] at h1
            have := HI.out
            rw [HD.out, strip_plain h1] at this
            rw [← this]; simp
        · have hN0' : ((N : Int) == 0) = false := by simp; omega
          have hkN : k + N ≤ s.size := by omega
          have hE := seqE_le (decide (1 < N)) (s.data.toList.drop (k + N))
          rw [List.length_drop, ← Lib.size_eq] at hE
          obtain ⟨E, hEE⟩ : ∃ E, seqE (decide (1 < N)) (s.data.toList.drop (k + N)) = E := ⟨_, rfl⟩
          rw [hEE] at hE
          have HE : Hid (seqE (decide (1 < N)) (s.data.toList.drop (k + N)) = E) := hEE
          clear hEE
          have hdec : decide ((1 : Int) < (N : Int)) = decide (1 < N) := decide_eq_decide.2 (by omega)
          have HDEC : Hid (decide ((1 : Int) < (N : Int)) = decide (1 < N)) := hdec
          clear hdec
          go_wp2_with fail
          rw [show ((k : Int) + (N : Int)) = ((k + N : Nat) : Int) from by omega]
          refine (sequenceEnd s (k + N) _ w4 hs HF4.out hkN).mono ?_
          rintro e w5 ⟨rfl, hb5⟩
          rw [HDEC.out, HE.out]
          have HB5 : Aside (Below w2.heap.size w2 w5) := HB4.out.trans (hb5.mono HB4.out.size)
          have HBu5 : Aside (Lib.BuilderAt 35 5 w2.heap.size w2.heap.size (.pointer (some ⟨w2.heap.size, 0, none⟩)) (Lib.byteCells out) w5) := builder_below HBu4.out hb5
          clear hb5
          go_wp2
          go_roundg (s.size - (k + N + E))
          case measure => omega
          case rel =>
            refine ⟨HB5.out, k + N + E, out, by omega, by go_num, by omega, ?_, HBu5.out⟩
            have := HI.out
            rw [strip_esc (by rw [HN.out]; omega), HN.out, show (s.data.toList.drop k).drop N = s.data.toList.drop (k + N) from List.drop_drop, HE.out, List.drop_drop] at this
            rw [← this, Nat.add_assoc]

  · have HC : Aside (cF escL s.data.toList = true) := hc
    clear hc
    go_enter Tryd.func18, Tryd.ntmps18
    go_wp2_with fail
    refine (Tryd.strings_IndexByte s 27 w).mono ?_
    rintro e w1 ⟨rfl, rfl⟩
    rw [show (27 : Int).toNat.toUInt8 = 27 from rfl, HJ.out]
    go_wp2_with fail
    refine (containsFold s _ w1 hs HF.out lits_esc).mono ?_
    rintro e w2 ⟨rfl, hb⟩
    rw [show cF (ByteArray.data { data := #[92, 117, 48, 48, 49, 98] }).toList s.data.toList = true from HC.out]
    have HB0 : Aside (Below w1.heap.size w1 w2) := hb
    have HF2 : Aside (Folds w2) := HF.out.below hb
    clear hb
    have hbk : (w2.alloc (.cells #[.pointer none, .slice none 0 0] 35)).heap[w2.heap.size]? = some (.cells #[.pointer none, .slice none 0 0] 35 (0, 0)) := by
      show (w2.heap.push _)[w2.heap.size]? = _
      simp
    have HBK : Aside ((w2.alloc (.cells #[.pointer none, .slice none 0 0] 35)).heap[w2.heap.size]? = some (.cells #[.pointer none, .slice none 0 0] 35 (0, 0))) := hbk
    clear hbk
    go_wp2_with fail
    refine (Tryd.Builder_Grow_fresh w2.heap.size w2.heap.size s.size _ (Nat.le_refl _) HBK.out (by simp) (by omega)).mono ?_
    rintro e w3 ⟨rfl, hbu, hb3⟩
    have HBu : Aside (Lib.BuilderAt 35 5 w2.heap.size w2.heap.size (.pointer (some ⟨w2.heap.size, 0, none⟩)) [] w3) := hbu
    have HB3 : Aside (Below w2.heap.size w2 w3) := ((Below.refl _ _).alloc (Nat.le_refl _) _).trans hb3
    clear hbu hb3
    go_wp2_with fail
    go_loopg [4] (s.size) (fun g s4 wx => Below w2.heap.size w2 wx ∧ ∃ (k : Nat) (out : List UInt8), g + k = s.size ∧ s4 = .int .i64 k ∧ out.length ≤ k ∧ out ++ strip (s.data.toList.drop k) = strip s.data.toList ∧ Lib.BuilderAt 35 5 w2.heap.size w2.heap.size (.pointer (some ⟨w2.heap.size, 0, none⟩)) (Lib.byteCells out) wx)
    case atStart => exact ⟨HB3.out, 0, [], by omega, rfl, Nat.le_refl _, rfl, HBu.out⟩
    case round =>
      obtain ⟨hB, k, out, hk, rfl, hol, hinv, hbu⟩ := hrel
      have HI : Aside (out ++ strip (s.data.toList.drop k) = strip s.data.toList) := hinv
      have HBr : Aside (Below w2.heap.size w2 wr) := hB
      have HBb : Aside (Lib.BuilderAt 35 5 w2.heap.size w2.heap.size (.pointer (some ⟨w2.heap.size, 0, none⟩)) (Lib.byteCells out) wr) := hbu
      have HFr : Aside (Folds wr) := HF2.out.below hB
      clear hinv hB hbu
      cases gk with
      | zero =>
        have hks : ¬ ((k : Int) < (s.size : Int)) := by omega
        go_wp2_with fail
        refine (Tryd.Builder_String_any w2.heap.size w2.heap.size out wr (Or.inr HBb.out) HBr.out.size).mono ?_
        rintro e w4 ⟨rfl, hb4⟩
        have HB4 : Aside (Below w1.heap.size w1 w4) := HB0.out.trans ((HBr.out.trans hb4).mono HB0.out.size)
        clear hb4
        go_wp2
        go_ret
        refine ⟨?_, HB4.out⟩
        have := HI.out
        rw [List.drop_eq_nil_of_le (by rw [← Lib.size_eq]; omega), strip_nil, List.append_nil] at this
        rw [← this]; rfl
      | succ g =>
        have hks : ((k : Int) < (s.size : Int)) := by omega
        have hkn : k < s.size := by omega
        obtain ⟨x, hx⟩ : ∃ x : UInt8, s[k]'(by omega) = x := ⟨_, rfl⟩
        have hxl : s.data.toList[k]? = some x := by rw [← hx]; exact Lib.data_getElem? s k (by omega)
        have HD : Aside (s.data.toList.drop k = x :: s.data.toList.drop (k + 1)) := Lib.drop_at hxl
        have hlen : (s.data.toList.drop k).length = s.size - k := by rw [List.length_drop, ← Lib.size_eq]
        have hN : escN (s.data.toList.drop k) ≤ s.size - k := by rw [← hlen]; exact ctl_le _ _ _
        obtain ⟨N, hNN⟩ : ∃ N, escN (s.data.toList.drop k) = N := ⟨_, rfl⟩
        rw [hNN] at hN
        have HN : Hid (escN (s.data.toList.drop k) = N) := hNN
        clear hNN hxl hlen
        go_wp2_with fail
        refine (escAt s k wr hs HFr.out hkn).mono ?_
        rintro e w4 ⟨rfl, hb4⟩
        rw [HN.out]
        have HB4 : Aside (Below w2.heap.size w2 w4) := HBr.out.trans (hb4.mono HBr.out.size)
        have HBu4 : Aside (Lib.BuilderAt 35 5 w2.heap.size w2.heap.size (.pointer (some ⟨w2.heap.size, 0, none⟩)) (Lib.byteCells out) w4) := builder_below HBb.out hb4
        have HF4 : Aside (Folds w4) := HFr.out.below hb4
        clear hb4
        by_cases hN0 : N = 0
        · subst hN0
          go_wp2_with fail
          refine (Tryd.Builder_WriteByte w2.heap.size w2.heap.size (Lib.byteCells out) (x.toNat : Int) w4 (Or.inr HBu4.out) (by rw [Lib.byteCells_length]; omega) HB4.out.size).mono ?_
          rintro e w5 ⟨rfl, hbu5, hb5⟩
          have HB5 : Aside (Below w2.heap.size w2 w5) := HB4.out.trans hb5
          have HBu5 : Aside (Lib.BuilderAt 35 5 w2.heap.size w2.heap.size (.pointer (some ⟨w2.heap.size, 0, none⟩)) (Lib.byteCells (out ++ [x])) w5) := by
            have e : Lib.byteCells (out ++ [x]) = Lib.byteCells out ++ [.int .u8 (x.toNat : Int)] := by simp [Lib.byteCells]
            show Lib.BuilderAt _ _ _ _ _ _ _
            rw [e]; exact hbu5
          clear hb5 hbu5
          go_wp2
          go_roundg g
          case measure => omega
          case rel =>
            refine ⟨HB5.out, k + 1, out ++ [x], by omega, by go_num, by simp; omega, ?_, HBu5.out⟩
            have h1 := HN.out
            rw [HD.out] at h1
            have := HI.out
            rw [HD.out, strip_plain h1] at this
            rw [← this]; simp
        · have hN0' : ((N : Int) == 0) = false := by simp; omega
          have hkN : k + N ≤ s.size := by omega
          have hE := seqE_le (decide (1 < N)) (s.data.toList.drop (k + N))
          rw [List.length_drop, ← Lib.size_eq] at hE
          obtain ⟨E, hEE⟩ : ∃ E, seqE (decide (1 < N)) (s.data.toList.drop (k + N)) = E := ⟨_, rfl⟩
          rw [hEE] at hE
          have HE : Hid (seqE (decide (1 < N)) (s.data.toList.drop (k + N)) = E) := hEE
          clear hEE
          have hdec : decide ((1 : Int) < (N : Int)) = decide (1 < N) := decide_eq_decide.2 (by omega)
          have HDEC : Hid (decide ((1 : Int) < (N : Int)) = decide (1 < N)) := hdec
          clear hdec
          go_wp2_with fail
          rw [show ((k : Int) + (N : Int)) = ((k + N : Nat) : Int) from by omega]
          refine (sequenceEnd s (k + N) _ w4 hs HF4.out hkN).mono ?_
          rintro e w5 ⟨rfl, hb5⟩
          rw [HDEC.out, HE.out]
          have HB5 : Aside (Below w2.heap.size w2 w5) := HB4.out.trans (hb5.mono HB4.out.size)
          have HBu5 : Aside (Lib.BuilderAt 35 5 w2.heap.size w2.heap.size (.pointer (some ⟨w2.heap.size, 0, none⟩)) (Lib.byteCells out) w5) := builder_below HBu4.out hb5
          clear hb5
          go_wp2
          go_roundg (s.size - (k + N + E))
          case measure => omega
          case rel =>
            refine ⟨HB5.out, k + N + E, out, by omega, by go_num, by omega, ?_, HBu5.out⟩
            have := HI.out
            rw [strip_esc (by rw [HN.out]; omega), HN.out, show (s.data.toList.drop k).drop N = s.data.toList.drop (k + N) from List.drop_drop, HE.out, List.drop_drop] at this
            rw [← this, Nat.add_assoc]

set_option maxHeartbeats 2000000 in
theorem stripW (s : ByteArray) (w : World) (hs : s.size < 4294967281) (hF : Folds w) :
    Calls Tryd.prog 18 #[.string s] w fun e w' => e = .returned (.string ⟨(strip s.data.toList).toArray⟩) ∧ Below w.heap.size w w' := by
  obtain ⟨J, hJ⟩ : ∃ J, Lib.indexByte s.data.toList 27 = J := ⟨_, rfl⟩
  have hg := Lib.indexByte_ge s.data.toList 27
  rw [hJ] at hg
  by_cases h0 : 0 ≤ J
  · exact strip_loop s w hs hF J hJ (Or.inl h0)
  · obtain rfl : J = -1 := by omega
    cases hc : cF escL s.data.toList with
    | true => exact strip_loop s w hs hF _ hJ (Or.inr ⟨rfl, hc⟩)
    | false =>
      have e : strip s.data.toList = s.data.toList := strip_all _ (fun b hb h => index_none _ _ hJ b hb (UInt8.toNat_inj.1 h)) hc
      rw [e, Lib.mk_data]
      have HF : Aside (Folds w) := hF
      have HJ : Aside (Lib.indexByte s.data.toList 27 = -1) := hJ
      have HC : Aside (cF escL s.data.toList = false) := hc
      clear hF hJ hc e hg h0
      go_enter Tryd.func18, Tryd.ntmps18
      go_wp2_with fail
      refine (Tryd.strings_IndexByte s 27 w).mono ?_
      rintro e w1 ⟨rfl, rfl⟩
      rw [show (27 : Int).toNat.toUInt8 = 27 from rfl, HJ.out]
      go_wp2_with fail
      refine (containsFold s _ w1 hs HF.out lits_esc).mono ?_
      rintro e w2 ⟨rfl, hb⟩
      rw [show cF (ByteArray.data { data := #[92, 117, 48, 48, 49, 98] }).toList s.data.toList = false from HC.out]
      go_wp2
      go_ret
      exact ⟨rfl, hb⟩
end Go.Proofs.Qxb6603183aDoor
