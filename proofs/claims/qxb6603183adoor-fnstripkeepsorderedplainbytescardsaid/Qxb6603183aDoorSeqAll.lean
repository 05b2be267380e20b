/-
  sequenceEnd at every input, and its door ZZSequenceEnd.
-/
import Derived.Test.Qxb6603183aDoorSeq
namespace Go.Proofs.Qxb6603183aDoor
set_option maxRecDepth 1000000
open Go.RowKit Go.Lib

theorem seq_end (s : ByteArray) (i : Nat) (j : Bool) (w : World) (hi : i = s.size) :
    Calls Tryd.prog 20 #[.string s, .int .i64 i, .bool j] w fun e w' => e = .returned (.int .i64 (i : Int)) ∧ Below w.heap.size w w' := by
  have hne : ((i : Int) == (s.size : Int)) = true := by simp; omega
  clear hi
  go_enter Tryd.func20, Tryd.ntmps20
  go_wp2
  go_ret
  exact ⟨rfl, Below.refl _ _⟩

set_option maxHeartbeats 1000000 in
theorem seq_quote (s : ByteArray) (i : Nat) (w : World) (hi : i < s.size) (hc : (s[i]'hi).toNat = 34) :
    Calls Tryd.prog 20 #[.string s, .int .i64 i, .bool true] w fun e w' => e = .returned (.int .i64 (i : Int)) ∧ Below w.heap.size w w' := by
  obtain ⟨c, hcc⟩ : ∃ c : Int, ((s[i]'hi).toNat : Int) = c := ⟨_, rfl⟩
  have hne : ((i : Int) == (s.size : Int)) = false := by simp; omega
  have hii : (i : Int) < (s.size : Int) := by omega
  obtain rfl : c = 34 := by omega
  clear hc
  go_enter Tryd.func20, Tryd.ntmps20
  go_wp2
  go_ret
  exact ⟨rfl, Below.refl _ _⟩

set_option maxHeartbeats 1000000 in
theorem seq_back (s : ByteArray) (i : Nat) (w : World) (hs : s.size < 4294967281) (hi : i < s.size) (hc : (s[i]'hi).toNat = 92) :
    Calls Tryd.prog 20 #[.string s, .int .i64 i, .bool true] w fun e w' => e = .returned (.int .i64 ((i + (if Lib.hasPrefix (s.data.toList.drop i) [92, 92] then 2 else 0) : Nat) : Int)) ∧ Below w.heap.size w w' := by
  obtain ⟨E, hE⟩ : ∃ E, i + (if Lib.hasPrefix (s.data.toList.drop i) [92, 92] then 2 else 0) = E := ⟨_, rfl⟩
  rw [hE]
  have HE : Hid (i + (if Lib.hasPrefix (s.data.toList.drop i) [92, 92] then 2 else 0) = E) := hE
  clear hE
  obtain ⟨c, hcc⟩ : ∃ c : Int, ((s[i]'hi).toNat : Int) = c := ⟨_, rfl⟩
  have hne : ((i : Int) == (s.size : Int)) = false := by simp; omega
  have hii : (i : Int) < (s.size : Int) := by omega
  obtain rfl : c = 92 := by omega
  clear hc
  go_enter Tryd.func20, Tryd.ntmps20
  go_wp2_with fail
  refine (hasPrefix _ _ w).mono ?_
  rintro e w3 ⟨rfl, rfl⟩
  rw [Lib.extract_to_end]
  cases hp : Lib.hasPrefix (s.data.toList.drop i) (ByteArray.data { data := #[92, 92] }).toList with
  | true =>
    have HP : Hid (Lib.hasPrefix (s.data.toList.drop i) [92, 92] = true) := hp
    clear hp
    go_wp2
    go_ret
    exact ⟨ret_int (by have := HE.out; rw [HP.out] at this; simp at this; omega), Below.refl _ _⟩
  | false =>
    have HP : Hid (Lib.hasPrefix (s.data.toList.drop i) [92, 92] = false) := hp
    clear hp
    go_wp2
    go_ret
    exact ⟨ret_int (by have := HE.out; rw [HP.out] at this; simp at this; omega), Below.refl _ _⟩

set_option maxHeartbeats 1000000 in
theorem seq_str (s : ByteArray) (i : Nat) (j : Bool) (w : World) (hs : s.size < 4294967281) (hF : Folds w) (hi : i < s.size) (hc : (s[i]'hi).toNat = 93 ∨ (s[i]'hi).toNat = 80 ∨ (s[i]'hi).toNat = 88 ∨ (s[i]'hi).toNat = 94 ∨ (s[i]'hi).toNat = 95) :
    Calls Tryd.prog 20 #[.string s, .int .i64 i, .bool j] w fun e w' => e = .returned (.int .i64 ((i + 1 + strE j (s.data.toList.drop (i + 1)) : Nat) : Int)) ∧ Below w.heap.size w w' := by
  have HF : Aside (Folds w) := hF
  clear hF
  obtain ⟨E, hE⟩ : ∃ E, i + 1 + strE j (s.data.toList.drop (i + 1)) = E := ⟨_, rfl⟩
  rw [hE]
  have HE : Hid (i + 1 + strE j (s.data.toList.drop (i + 1)) = E) := hE
  clear hE
  obtain ⟨c, hcc⟩ : ∃ c : Int, ((s[i]'hi).toNat : Int) = c := ⟨_, rfl⟩
  have hne : ((i : Int) == (s.size : Int)) = false := by simp; omega
  have hii : (i : Int) < (s.size : Int) := by omega
  have hc' : c = 93 ∨ c = 80 ∨ c = 88 ∨ c = 94 ∨ c = 95 := by omega
  clear hc
  cases j
  all_goals
    rcases hc' with rfl | rfl | rfl | rfl | rfl
    all_goals
      go_enter Tryd.func20, Tryd.ntmps20
      go_wp2_with fail
      rw [show ((i : Int) + 1) = ((i + 1 : Nat) : Int) from by omega]
      refine (stringEnd s (i + 1) _ w hs HF.out (by omega)).mono ?_
      rintro e w3 ⟨rfl, hb⟩
      rw [HE.out]
      go_wp2
      go_ret
      exact ⟨rfl, hb⟩

set_option maxHeartbeats 1000000 in
theorem seq_short (s : ByteArray) (i : Nat) (j : Bool) (w : World) (hs : s.size < 4294967281) (hi : i < s.size) (h1 : ¬ (j = true ∧ (s[i]'hi).toNat = 92)) (h91 : (s[i]'hi).toNat ≠ 91)
    (hc : ¬ ((s[i]'hi).toNat = 93 ∨ (s[i]'hi).toNat = 80 ∨ (s[i]'hi).toNat = 88 ∨ (s[i]'hi).toNat = 94 ∨ (s[i]'hi).toNat = 95)) (h47 : ¬ (32 ≤ (s[i]'hi).toNat ∧ (s[i]'hi).toNat ≤ 47)) :
    Calls Tryd.prog 20 #[.string s, .int .i64 i, .bool j] w fun e w' => e = .returned (.int .i64 ((i + (if 48 ≤ (s[i]'hi).toNat ∧ (s[i]'hi).toNat ≤ 126 then 1 else 0) : Nat) : Int)) ∧ Below w.heap.size w w' := by
  obtain ⟨c, hcc⟩ : ∃ c : UInt8, (s[i]'hi) = c := ⟨_, rfl⟩
  rw [hcc] at h1 h91 hc h47 ⊢
  have hne : ((i : Int) == (s.size : Int)) = false := by simp; omega
  have hii : (i : Int) < (s.size : Int) := by omega
  have e34 : ((c.toNat : Int) == 34) = false := by simp; omega
  have e91 : ((c.toNat : Int) == 91) = false := by simp; omega
  have e93 : ((c.toNat : Int) == 93) = false := by simp; omega
  have e80 : ((c.toNat : Int) == 80) = false := by simp; omega
  have e88 : ((c.toNat : Int) == 88) = false := by simp; omega
  have e94 : ((c.toNat : Int) == 94) = false := by simp; omega
  have e95 : ((c.toNat : Int) == 95) = false := by simp; omega
  obtain ⟨E, hE⟩ : ∃ E, (if 48 ≤ c.toNat ∧ c.toNat ≤ 126 then 1 else 0) = E := ⟨_, rfl⟩
  rw [hE]
  have HE : Hid ((if 48 ≤ c.toNat ∧ c.toNat ≤ 126 then 1 else 0) = E) := hE
  clear hE h91 hc
  cases j
  case false =>
    clear h1
    by_cases h32 : c.toNat < 32
    · have h32' : ¬ (32 : Int) ≤ (c.toNat : Int) := by omega
      have h48' : ¬ (48 : Int) ≤ (c.toNat : Int) := by omega
      clear h47
      go_enter Tryd.func20, Tryd.ntmps20
      go_wp2
      go_ret
      exact ⟨ret_int (by have := HE.out; rw [if_neg (by omega)] at this; omega), Below.refl _ _⟩
    · have h32' : (32 : Int) ≤ (c.toNat : Int) := by omega
      have h47' : ¬ (c.toNat : Int) ≤ 47 := by omega
      have h48' : (48 : Int) ≤ (c.toNat : Int) := by omega
      clear h47 h32
      by_cases h126 : c.toNat ≤ 126
      · have h126' : (c.toNat : Int) ≤ 126 := by omega
        go_enter Tryd.func20, Tryd.ntmps20
        go_wp2
        go_ret
        exact ⟨ret_int (by have := HE.out; rw [if_pos (by omega)] at this; omega), Below.refl _ _⟩
      · have h126' : ¬ (c.toNat : Int) ≤ 126 := by omega
        go_enter Tryd.func20, Tryd.ntmps20
        go_wp2
        go_ret
        exact ⟨ret_int (by have := HE.out; rw [if_neg (by omega)] at this; omega), Below.refl _ _⟩
  case true =>
    have e92 : ((c.toNat : Int) == 92) = false := by simp at h1; simp; omega
    clear h1
    by_cases h32 : c.toNat < 32
    · have h32' : ¬ (32 : Int) ≤ (c.toNat : Int) := by omega
      have h48' : ¬ (48 : Int) ≤ (c.toNat : Int) := by omega
      clear h47
      go_enter Tryd.func20, Tryd.ntmps20
      go_wp2
      go_ret
      exact ⟨ret_int (by have := HE.out; rw [if_neg (by omega)] at this; omega), Below.refl _ _⟩
    · have h32' : (32 : Int) ≤ (c.toNat : Int) := by omega
      have h47' : ¬ (c.toNat : Int) ≤ 47 := by omega
      have h48' : (48 : Int) ≤ (c.toNat : Int) := by omega
      clear h47 h32
      by_cases h126 : c.toNat ≤ 126
      · have h126' : (c.toNat : Int) ≤ 126 := by omega
        go_enter Tryd.func20, Tryd.ntmps20
        go_wp2
        go_ret
        exact ⟨ret_int (by have := HE.out; rw [if_pos (by omega)] at this; omega), Below.refl _ _⟩
      · have h126' : ¬ (c.toNat : Int) ≤ 126 := by omega
        go_enter Tryd.func20, Tryd.ntmps20
        go_wp2
        go_ret
        exact ⟨ret_int (by have := HE.out; rw [if_neg (by omega)] at this; omega), Below.refl _ _⟩

theorem sequenceEnd (s : ByteArray) (i : Nat) (j : Bool) (w : World) (hs : s.size < 4294967281) (hF : Folds w) (hi : i ≤ s.size) :
    Calls Tryd.prog 20 #[.string s, .int .i64 i, .bool j] w fun e w' => e = .returned (.int .i64 ((i + seqE j (s.data.toList.drop i) : Nat) : Int)) ∧ Below w.heap.size w w' := by
  by_cases hlt : i < s.size
  · have hxl : s.data.toList[i]? = some (s[i]'hlt) := Lib.data_getElem? s i hlt
    have hd := Lib.drop_at hxl
    have heq : seqE j (s.data.toList.drop i) = (if j = true ∧ ((s[i]'hlt).toNat = 34 ∨ (s[i]'hlt).toNat = 92) then (if (s[i]'hlt).toNat = 92 ∧ Lib.hasPrefix (s.data.toList.drop i) [92, 92] = true then 2 else 0)
        else if (s[i]'hlt).toNat = 91 then 1 + runE j 32 63 64 126 (s.data.toList.drop (i + 1))
        else if (s[i]'hlt).toNat = 93 ∨ (s[i]'hlt).toNat = 80 ∨ (s[i]'hlt).toNat = 88 ∨ (s[i]'hlt).toNat = 94 ∨ (s[i]'hlt).toNat = 95 then 1 + strE j (s.data.toList.drop (i + 1))
        else if 32 ≤ (s[i]'hlt).toNat ∧ (s[i]'hlt).toNat ≤ 47 then runE j 32 47 48 126 (s.data.toList.drop i)
        else if 48 ≤ (s[i]'hlt).toNat ∧ (s[i]'hlt).toNat ≤ 126 then 1 else 0) := by
      rw [hd]; rfl
    rw [heq]
    by_cases h1 : j = true ∧ ((s[i]'hlt).toNat = 34 ∨ (s[i]'hlt).toNat = 92)
    · rw [if_pos h1]
      obtain ⟨rfl, h2⟩ := h1
      rcases h2 with h2 | h2
      · rw [if_neg (by omega)]
        exact seq_quote s i w hlt h2
      · have := seq_back s i w hs hlt h2
        simp only [h2, true_and]
        exact this
    · rw [if_neg h1]
      by_cases h91 : (s[i]'hlt).toNat = 91
      · rw [if_pos h91]
        cases j
        · exact seq_csi_f s i _ w hs hlt h91 (by omega)
        · exact seq_csi_t s i _ w hs hlt h91 (by omega)
      · rw [if_neg h91]
        by_cases h5 : (s[i]'hlt).toNat = 93 ∨ (s[i]'hlt).toNat = 80 ∨ (s[i]'hlt).toNat = 88 ∨ (s[i]'hlt).toNat = 94 ∨ (s[i]'hlt).toNat = 95
        · rw [if_pos h5, ← Nat.add_assoc]
          exact seq_str s i j w hs hF hlt h5
        · rw [if_neg h5]
          by_cases h47 : 32 ≤ (s[i]'hlt).toNat ∧ (s[i]'hlt).toNat ≤ 47
          · rw [if_pos h47]
            cases j
            · exact seq_mid_f s i _ w hs hlt h47.1 h47.2 rfl
            · exact seq_mid_t s i _ w hs hlt h47.1 h47.2 (fun h => h1 ⟨rfl, Or.inl h⟩) rfl
          · rw [if_neg h47]
            exact seq_short s i j w hs hlt (fun h => h1 ⟨h.1, Or.inr h.2⟩) h91 h5 h47
  · have e : i = s.size := by omega
    rw [List.drop_eq_nil_of_le (by rw [← Lib.size_eq]; omega)]
    exact seq_end s i j w e

theorem zzSequenceEnd (s : ByteArray) (i : Nat) (j : Bool) (w : World) (hs : s.size < 4294967281) (hF : Folds w) (hi : i ≤ s.size) :
    Calls Tryd.prog 10 #[.string s, .int .i64 i, .bool j] w fun e w' => e = .returned (.int .i64 ((i + seqE j (s.data.toList.drop i) : Nat) : Int)) ∧ Below w.heap.size w w' := by
  have HF : Aside (Folds w) := hF
  clear hF
  go_enter Tryd.func10, Tryd.ntmps10
  go_wp2_with fail
  refine (sequenceEnd s i j w hs HF.out hi).mono ?_
  rintro e w' ⟨rfl, hb⟩
  go_wp2
  go_ret
  exact ⟨ret_int (by omega), hb⟩
end Go.Proofs.Qxb6603183aDoor
