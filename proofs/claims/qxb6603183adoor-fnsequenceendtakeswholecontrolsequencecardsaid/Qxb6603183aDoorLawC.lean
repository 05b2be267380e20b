/-
  The walk of the law FnSequenceEndTakesWholeControlSequence.
-/
import Derived.Test.Qxb6603183aDoorSeqAll
import Derived.Test.Qxb6603183aDoorLawA
namespace Go.Proofs.Qxb6603183aDoor
set_option maxRecDepth 1000000
open Go.RowKit Go.Lib

/-- What sequenceEnd takes of '[', a run, a byte that does not continue it, and the rest. -/
theorem runE_run (j : Bool) (f : UInt8) (u : List UInt8) : ∀ t : List UInt8, (∀ b ∈ t, 32 ≤ b.toNat ∧ b.toNat ≤ 63 ∧ b.toNat ≠ 34) → inRun j 32 63 f = false →
    runE j 32 63 64 126 (t ++ f :: u) = t.length + fin j 64 126 (f :: u)
  | [], _, hf => by simp [runE_stop hf]
  | b :: t, h, hf => by
    have hb := h b (by simp)
    rw [List.cons_append, runE_step (inRun_in hb.1 hb.2.1 (fun h => hb.2.2 h.2)), runE_run j f u t (fun c hc => h c (by simp [hc])) hf, List.length_cons]
    omega

theorem whole_list (f : UInt8) (t u : ByteArray) : ({ data := #[91] } ++ t ++ { data := #[f] } ++ u : ByteArray).data.toList = 91 :: (t.data.toList ++ f :: u.data.toList) := by
  show (((ByteArray.append (ByteArray.append (ByteArray.append _ _) _) _)).data.toList) = _
  simp
theorem whole_size (f : UInt8) (t u : ByteArray) : ({ data := #[91] } ++ t ++ { data := #[f] } ++ u : ByteArray).size = t.size + u.size + 2 := by
  rw [Lib.size_eq, whole_list, Lib.size_eq t, Lib.size_eq u]
  simp; omega
theorem seq_whole (j : Bool) (f : UInt8) (t u : ByteArray) (ht : ∀ b ∈ t.data.toList, 32 ≤ b.toNat ∧ b.toNat ≤ 63 ∧ b.toNat ≠ 34) (hf : inRun j 32 63 f = false) :
    0 + seqE j (({ data := #[91] } ++ t ++ { data := #[f] } ++ u : ByteArray).data.toList.drop 0) = t.size + (1 + fin j 64 126 (f :: u.data.toList)) := by
  have h := runE_run j f u.data.toList t.data.toList ht hf
  rw [List.drop_zero, whole_list, Lib.size_eq t]
  have e : seqE j (91 :: (t.data.toList ++ f :: u.data.toList)) = 1 + runE j 32 63 64 126 (t.data.toList ++ f :: u.data.toList) := by
    simp only [seqE]
    rw [if_neg (by simp), if_pos (by rfl)]
  rw [e, h]
  omega
theorem convert_one (f : UInt8) (w : World) : (convert 25 9 (.slice (some ⟨w.heap.size, 0, none⟩) 1 1)).run Tryd.prog (w.alloc (.cells #[.int .u8 (f.toNat : Int)] 5)) = .ok (.string { data := #[f] }) (w.alloc (.cells #[.int .u8 (f.toNat : Int)] 5)) := by
  exact run_convert_bytes_back (P := Tryd.prog) _ 25 9 5 ⟨w.heap.size, 0, none⟩ 1 [f] Tryd.underlying25 Tryd.underlying5 Tryd.underlying9 (fun j hj => by
    obtain rfl : j = 0 := by simpa using hj
    simp [Addr.add])

theorem zzBytesC (p s : ByteArray) (i : Value) (j : Value) (w : World) (h1 : p.size ≤ 524288) (h2 : s.size ≤ 524288) :
    Calls Tryd.prog 11 #[.string p, .string s, i, j] w fun e w' => e = .returned (.bool true) ∧ w' = w := by
  go_enter Tryd.func11, Tryd.ntmps11
  go_wp2
  go_ret
  exact ⟨rfl, rfl⟩

set_option maxHeartbeats 2000000 in
theorem lawC_far (t u : ByteArray) (f : Int) (j : Bool) (w : World) (ht : t.size ≤ maxLen) (hu : u.size ≤ maxLen) (h : ¬ (t.size ≤ 524288 ∧ u.size ≤ 524288)) :
    Calls Tryd.prog 4 #[.string t, .string u, .int .u8 f, .bool j] w fun e w' => e = .returned (.bool true) ∧ Below w.heap.size w w' := by
  unfold maxLen at ht hu
  by_cases h1 : t.size ≤ 524288
  · have h2 : 524288 < u.size := by omega
    clear h
    go_enter Tryd.func4, Tryd.ntmps4
    go_wp2
    all_goals (go_ret; exact ⟨rfl, Below.refl _ _⟩)
  · have h2 : 524288 < t.size := by omega
    clear h h1
    go_enter Tryd.func4, Tryd.ntmps4
    go_wp2
    all_goals (go_ret; exact ⟨rfl, Below.refl _ _⟩)

set_option maxHeartbeats 2000000 in
theorem lawC (t u : ByteArray) (f : UInt8) (j : Bool) (w : World) (ht : t.size ≤ maxLen) (hu : u.size ≤ maxLen) (hF : Folds w) :
    Calls Tryd.prog 4 #[.string t, .string u, .int .u8 (f.toNat : Int), .bool j] w fun e w' => e = .returned (.bool true) ∧ Below w.heap.size w w' := by
  by_cases h : t.size ≤ 524288 ∧ u.size ≤ 524288
  · obtain ⟨h1, h2⟩ := h
    have HF : Aside (Folds w) := hF
    clear hF ht hu
    have hf256 := f.toNat_lt
    go_enter Tryd.func4, Tryd.ntmps4
    go_wp2_with fail
    refine (zzBytesC t u _ _ w h1 h2).mono ?_
    rintro e w' ⟨rfl, rfl⟩
    go_wp2_with fail
    go_loopg [9] t.size (fun g s9 wx => w' = wx ∧ ∃ k : Nat, g + k = t.size ∧ s9 = .int .i64 k ∧ ∀ b ∈ t.data.toList.take k, 32 ≤ b.toNat ∧ b.toNat ≤ 63 ∧ b.toNat ≠ 34)
    case atStart => exact ⟨rfl, 0, by omega, rfl, fun b hb => by simp at hb⟩
    case round =>
      obtain ⟨rfl, k, hk, rfl, hinv⟩ := hrel
      have HI : Aside (∀ b ∈ t.data.toList.take k, 32 ≤ b.toNat ∧ b.toNat ≤ 63 ∧ b.toNat ≠ 34) := hinv
      clear hinv
      cases gk with
      | zero =>
        have hks : ¬ ((k : Int) < (t.size : Int)) := by omega
        have HA : Aside (∀ b ∈ t.data.toList, 32 ≤ b.toNat ∧ b.toNat ≤ 63 ∧ b.toNat ≠ 34) := by
          have := HI.out
          rw [List.take_of_length_le (by rw [← Lib.size_eq]; omega)] at this
          exact this
        have HA1 : Aside (Below w'.heap.size w' (w'.alloc (.cells #[.int .u8 (f.toNat : Int)] 5))) := (Below.refl _ _).alloc (Nat.le_refl _) _
        have HF2 : Aside (Folds (w'.alloc (.cells #[.int .u8 (f.toNat : Int)] 5))) := HF.out.below HA1.out
        have hcv := convert_one f w'
        have hsz : ({ data := #[91] } ++ t ++ { data := #[f] } ++ u : ByteArray).size < 4294967281 := by
          rw [whole_size]; omega
        by_cases h3 : f.toNat < 32
        · have h3' : ¬ (32 : Int) ≤ (f.toNat : Int) := by omega
          have h4' : ¬ (64 : Int) ≤ (f.toNat : Int) := by omega
          have HE : Hid (0 + seqE j (({ data := #[91] } ++ t ++ { data := #[f] } ++ u : ByteArray).data.toList.drop 0) = t.size + 1) := by
            show _ = _
            rw [seq_whole j f t u HA.out (inRun_lo h3), fin_no (by omega)]
          go_wp2_with fail
          refine (zzSequenceEnd _ 0 _ _ hsz HF2.out (Nat.zero_le _)).mono ?_
          rintro e w1 ⟨rfl, hb1⟩
          rw [HE.out]
          have HB1 : Aside (Below w'.heap.size w' w1) := HA1.out.trans (hb1.mono HA1.out.size)
          clear hb1
          go_wp2
          go_ret
          exact ⟨rfl, HB1.out⟩
        · have h3' : (32 : Int) ≤ (f.toNat : Int) := by omega
          by_cases h4 : 63 < f.toNat
          · have h4' : ¬ (f.toNat : Int) ≤ 63 := by omega
            have h5' : (64 : Int) ≤ (f.toNat : Int) := by omega
            by_cases h6 : f.toNat ≤ 126
            · have h6' : (f.toNat : Int) ≤ 126 := by omega
              cases j with
              | false =>
                have HE : Hid (0 + seqE false (({ data := #[91] } ++ t ++ { data := #[f] } ++ u : ByteArray).data.toList.drop 0) = t.size + 2) := by
                  show _ = _
                  rw [seq_whole false f t u HA.out (inRun_hi h4), fin_yes (by omega) (by omega) (by simp)]
                go_wp2_with fail
                refine (zzSequenceEnd _ 0 _ _ hsz HF2.out (Nat.zero_le _)).mono ?_
                rintro e w1 ⟨rfl, hb1⟩
                rw [HE.out]
                have HB1 : Aside (Below w'.heap.size w' w1) := HA1.out.trans (hb1.mono HA1.out.size)
                clear hb1
                go_wp2
                go_ret
                exact ⟨rfl, HB1.out⟩
              | true =>
                by_cases h7 : f.toNat = 92
                · have h7' : ((f.toNat : Int) == 92) = true := by simp; omega
                  have H7 : Hid (f.toNat = 92) := h7
                  clear h7
                  have HE : Hid (0 + seqE true (({ data := #[91] } ++ t ++ { data := #[f] } ++ u : ByteArray).data.toList.drop 0) = t.size + 1) := by
                    show _ = _
                    rw [seq_whole true f t u HA.out (inRun_hi h4), fin_no (by have := H7.out; simp; omega)]
                  go_wp2_with fail
                  refine (zzSequenceEnd _ 0 _ _ hsz HF2.out (Nat.zero_le _)).mono ?_
                  rintro e w1 ⟨rfl, hb1⟩
                  rw [HE.out]
                  have HB1 : Aside (Below w'.heap.size w' w1) := HA1.out.trans (hb1.mono HA1.out.size)
                  clear hb1
                  go_wp2
                  go_ret
                  exact ⟨rfl, HB1.out⟩
                · have h7' : ((f.toNat : Int) == 92) = false := by simp; omega
                  have H7 : Hid (¬ f.toNat = 92) := h7
                  clear h7
                  have HE : Hid (0 + seqE true (({ data := #[91] } ++ t ++ { data := #[f] } ++ u : ByteArray).data.toList.drop 0) = t.size + 2) := by
                    show _ = _
                    rw [seq_whole true f t u HA.out (inRun_hi h4), fin_yes (by omega) (by omega) (by intro h; exact H7.out h.2)]
                  go_wp2_with fail
                  refine (zzSequenceEnd _ 0 _ _ hsz HF2.out (Nat.zero_le _)).mono ?_
                  rintro e w1 ⟨rfl, hb1⟩
                  rw [HE.out]
                  have HB1 : Aside (Below w'.heap.size w' w1) := HA1.out.trans (hb1.mono HA1.out.size)
                  clear hb1
                  go_wp2
                  go_ret
                  exact ⟨rfl, HB1.out⟩
            · have h6' : ¬ (f.toNat : Int) ≤ 126 := by omega
              have HE : Hid (0 + seqE j (({ data := #[91] } ++ t ++ { data := #[f] } ++ u : ByteArray).data.toList.drop 0) = t.size + 1) := by
                show _ = _
                rw [seq_whole j f t u HA.out (inRun_hi h4), fin_no (by omega)]
              go_wp2_with fail
              refine (zzSequenceEnd _ 0 _ _ hsz HF2.out (Nat.zero_le _)).mono ?_
              rintro e w1 ⟨rfl, hb1⟩
              rw [HE.out]
              have HB1 : Aside (Below w'.heap.size w' w1) := HA1.out.trans (hb1.mono HA1.out.size)
              clear hb1
              go_wp2
              go_ret
              exact ⟨rfl, HB1.out⟩
          · have h4' : (f.toNat : Int) ≤ 63 := by omega
            have h5' : ¬ (64 : Int) ≤ (f.toNat : Int) := by omega
            cases j with
            | false =>
              go_wp2
              all_goals (go_ret; exact ⟨rfl, Below.refl _ _⟩)
            | true =>
              by_cases h7 : f.toNat = 34
              · have h7' : ((f.toNat : Int) == 34) = true := by simp; omega
                have H7 : Hid (f.toNat = 34) := h7
                clear h7
                have HE : Hid (0 + seqE true (({ data := #[91] } ++ t ++ { data := #[f] } ++ u : ByteArray).data.toList.drop 0) = t.size + 1) := by
                  show _ = _
                  rw [seq_whole true f t u HA.out (inRun_q H7.out), fin_no (by omega)]
                go_wp2_with fail
                refine (zzSequenceEnd _ 0 _ _ hsz HF2.out (Nat.zero_le _)).mono ?_
                rintro e w1 ⟨rfl, hb1⟩
                rw [HE.out]
                have HB1 : Aside (Below w'.heap.size w' w1) := HA1.out.trans (hb1.mono HA1.out.size)
                clear hb1
                go_wp2
                go_ret
                exact ⟨rfl, HB1.out⟩
              · have h7' : ((f.toNat : Int) == 34) = false := by simp; omega
                clear h7
                go_wp2
                all_goals (go_ret; exact ⟨rfl, Below.refl _ _⟩)
      | succ g =>
        have hks : ((k : Int) < (t.size : Int)) := by omega
        have hkn : k < t.size := by omega
        obtain ⟨x, hx⟩ : ∃ x : UInt8, t[k]'(by omega) = x := ⟨_, rfl⟩
        have hxl : t.data.toList[k]? = some x := by rw [← hx]; exact Lib.data_getElem? t k (by omega)
        have HT : Aside (t.data.toList.take (k + 1) = t.data.toList.take k ++ [x]) := by
          show _ = _
          rw [List.take_add_one, hxl]; rfl
        clear hxl
        by_cases h3 : x.toNat < 32
        · have h3' : (x.toNat : Int) < 32 := by omega
          clear h3
          go_wp2
          all_goals (go_ret; exact ⟨rfl, Below.refl _ _⟩)
        · have h3' : ¬ (x.toNat : Int) < 32 := by omega
          by_cases h4 : 63 < x.toNat
          · have h4' : 63 < (x.toNat : Int) := by omega
            clear h3 h4
            go_wp2
            all_goals (go_ret; exact ⟨rfl, Below.refl _ _⟩)
          · have h4' : ¬ 63 < (x.toNat : Int) := by omega
            by_cases h5 : x.toNat = 34
            · have h5' : ((x.toNat : Int) == 34) = true := by simp; omega
              clear h3 h4 h5
              go_wp2
              all_goals (go_ret; exact ⟨rfl, Below.refl _ _⟩)
            · have h5' : ((x.toNat : Int) == 34) = false := by simp; omega
              have H : Aside (32 ≤ x.toNat ∧ x.toNat ≤ 63 ∧ x.toNat ≠ 34) := ⟨by omega, by omega, h5⟩
              clear h3 h4 h5
              go_wp2
              go_roundg g
              case measure => omega
              case rel =>
                refine ⟨rfl, k + 1, by omega, by go_num, fun b hb => ?_⟩
                rw [HT.out, List.mem_append] at hb
                rcases hb with hb | hb
                · exact HI.out b hb
                · rw [List.mem_singleton] at hb
                  rw [hb]; exact H.out
  · exact lawC_far t u _ j w ht hu h
end Go.Proofs.Qxb6603183aDoor
