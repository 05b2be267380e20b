/-
  The walk of sequenceEnd, and of its door ZZSequenceEnd.
-/
import Derived.Test.Qxb6603183aDoorStr
namespace Go.Proofs.Qxb6603183aDoor
set_option maxRecDepth 1000000
open Go.RowKit Go.Lib

theorem runE_step {j : Bool} {lo hi flo fhi : Nat} {c : UInt8} {l : List UInt8} (h : inRun j lo hi c = true) : runE j lo hi flo fhi (c :: l) = 1 + runE j lo hi flo fhi l := by simp [runE, h]
theorem runE_stop {j : Bool} {lo hi flo fhi : Nat} {c : UInt8} {l : List UInt8} (h : inRun j lo hi c = false) : runE j lo hi flo fhi (c :: l) = fin j flo fhi (c :: l) := by simp [runE, h]
theorem fin_yes {j : Bool} {flo fhi : Nat} {c : UInt8} {l : List UInt8} (h1 : flo ≤ c.toNat) (h2 : c.toNat ≤ fhi) (h3 : ¬ (j = true ∧ c.toNat = 92)) : fin j flo fhi (c :: l) = 1 := by simp only [fin]; rw [if_pos ⟨h1, h2, h3⟩]
theorem fin_no {j : Bool} {flo fhi : Nat} {c : UInt8} {l : List UInt8} (h : ¬ (flo ≤ c.toNat ∧ c.toNat ≤ fhi ∧ ¬ (j = true ∧ c.toNat = 92))) : fin j flo fhi (c :: l) = 0 := by simp only [fin]; rw [if_neg h]
theorem inRun_lo {j : Bool} {lo hi : Nat} {c : UInt8} (h : c.toNat < lo) : inRun j lo hi c = false := by
  have : decide (lo ≤ c.toNat) = false := decide_eq_false (by omega)
  rw [inRun, this]; rfl
theorem inRun_hi {j : Bool} {lo hi : Nat} {c : UInt8} (h : hi < c.toNat) : inRun j lo hi c = false := by
  have : decide (c.toNat ≤ hi) = false := decide_eq_false (by omega)
  rw [inRun, this, Bool.and_false]; rfl
theorem inRun_q {lo hi : Nat} {c : UInt8} (h : c.toNat = 34) : inRun true lo hi c = false := by simp [inRun, h]
theorem inRun_in {j : Bool} {lo hi : Nat} {c : UInt8} (h1 : lo ≤ c.toNat) (h2 : c.toNat ≤ hi) (h3 : ¬ (j = true ∧ c.toNat = 34)) : inRun j lo hi c = true := by
  cases j <;> simp_all [inRun]

set_option maxHeartbeats 2000000 in
/-- ESC [: parameters, then the final byte. -/
theorem seq_csi_f (s : ByteArray) (i : Nat) (E : Nat) (w : World) (hs : s.size < 4294967281) (hi : i < s.size) (hc : (s[i]'hi).toNat = 91) (hE : 1 + i + runE false 32 63 64 126 (s.data.toList.drop (i + 1)) = E) :
    Calls Tryd.prog 20 #[.string s, .int .i64 i, .bool false] w fun e w' => e = .returned (.int .i64 (E : Int)) ∧ Below w.heap.size w w' := by
  have HE : Hid (1 + i + runE false 32 63 64 126 (s.data.toList.drop (i + 1)) = E) := hE
  clear hE
  obtain ⟨c, hcc⟩ : ∃ c : Int, ((s[i]'hi).toNat : Int) = c := ⟨_, rfl⟩
  have hne : ((i : Int) == (s.size : Int)) = false := by simp; omega
  have hii : (i : Int) < (s.size : Int) := by omega
  obtain rfl : c = 91 := by omega
  clear hc
  go_enter Tryd.func20, Tryd.ntmps20
  go_wp2_with fail
  go_loopg [1] (s.size - (i + 1)) (fun g s1 wx => w = wx ∧ ∃ k : Nat, g + k = s.size ∧ s1 = .int .i64 k ∧ k + runE false 32 63 64 126 (s.data.toList.drop k) = E)
  case atStart => exact ⟨rfl, i + 1, by omega, by go_num, by have := HE.out; omega⟩
  case round =>
    obtain ⟨rfl, k, hk, rfl, hinv⟩ := hrel
    have HI : Aside (k + runE false 32 63 64 126 (s.data.toList.drop k) = E) := hinv
    clear hinv
    cases gk with
    | zero =>
      have hks : ¬ ((k : Int) < (s.size : Int)) := by omega
      go_wp2
      go_ret
      refine ⟨ret_int ?_, Below.refl _ _⟩
      have := HI.out
      rw [List.drop_eq_nil_of_le (by rw [← Lib.size_eq]; omega)] at this
      simp only [runE] at this
      omega
    | succ g =>
      have hks : ((k : Int) < (s.size : Int)) := by omega
      have hkn : k < s.size := by omega
      obtain ⟨x, hx⟩ : ∃ x : UInt8, s[k]'(by omega) = x := ⟨_, rfl⟩
      have hxl : s.data.toList[k]? = some x := by rw [← hx]; exact Lib.data_getElem? s k (by omega)
      have HD : Aside (s.data.toList.drop k = x :: s.data.toList.drop (k + 1)) := Lib.drop_at hxl
      have hx256 := x.toNat_lt
      clear hxl
      by_cases h1 : x.toNat < 32
      · have h1' : ¬ ((32 : Int) ≤ (x.toNat : Int)) := by omega
        have h2' : ¬ ((64 : Int) ≤ (x.toNat : Int)) := by omega
        clear h1
        go_wp2
        all_goals
          go_ret
          refine ⟨ret_int ?_, Below.refl _ _⟩
          have := HI.out
          rw [HD.out, runE_stop (inRun_lo (by omega)), fin_no (by omega)] at this
          omega
      · have h1' : ((32 : Int) ≤ (x.toNat : Int)) := by omega
        clear h1
        by_cases h2 : 63 < x.toNat
        · have h2' : ¬ ((x.toNat : Int) ≤ (63 : Int)) := by omega
          have h3' : ((64 : Int) ≤ (x.toNat : Int)) := by omega
          clear h2
          by_cases h4 : x.toNat ≤ 126
          · have h4' : ((x.toNat : Int) ≤ 126) := by omega
            go_wp2
            all_goals
              go_ret
              refine ⟨ret_int ?_, Below.refl _ _⟩
              have := HI.out
              rw [HD.out, runE_stop (inRun_hi (by omega)), fin_yes (by omega) (by omega) (by simp)] at this
              omega
          · have h4' : ¬ ((x.toNat : Int) ≤ 126) := by omega
            go_wp2
            all_goals
              go_ret
              refine ⟨ret_int ?_, Below.refl _ _⟩
              have := HI.out
              rw [HD.out, runE_stop (inRun_hi (by omega)), fin_no (by omega)] at this
              omega
        · have h2' : ((x.toNat : Int) ≤ (63 : Int)) := by omega
          have h3' : ¬ ((64 : Int) ≤ (x.toNat : Int)) := by omega
          clear h2
          go_wp2
          go_roundg g
          case measure => omega
          case rel =>
            refine ⟨rfl, k + 1, by omega, by go_num, ?_⟩
            have := HI.out
            rw [HD.out, runE_step (inRun_in (by omega) (by omega) (by simp))] at this
            omega

set_option maxHeartbeats 2000000 in
/-- ESC [: parameters, then the final byte. -/
theorem seq_csi_t (s : ByteArray) (i : Nat) (E : Nat) (w : World) (hs : s.size < 4294967281) (hi : i < s.size) (hc : (s[i]'hi).toNat = 91) (hE : 1 + i + runE true 32 63 64 126 (s.data.toList.drop (i + 1)) = E) :
    Calls Tryd.prog 20 #[.string s, .int .i64 i, .bool true] w fun e w' => e = .returned (.int .i64 (E : Int)) ∧ Below w.heap.size w w' := by
  have HE : Hid (1 + i + runE true 32 63 64 126 (s.data.toList.drop (i + 1)) = E) := hE
  clear hE
  obtain ⟨c, hcc⟩ : ∃ c : Int, ((s[i]'hi).toNat : Int) = c := ⟨_, rfl⟩
  have hne : ((i : Int) == (s.size : Int)) = false := by simp; omega
  have hii : (i : Int) < (s.size : Int) := by omega
  obtain rfl : c = 91 := by omega
  clear hc
  go_enter Tryd.func20, Tryd.ntmps20
  go_wp2_with fail
  go_loopg [1] (s.size - (i + 1)) (fun g s1 wx => w = wx ∧ ∃ k : Nat, g + k = s.size ∧ s1 = .int .i64 k ∧ k + runE true 32 63 64 126 (s.data.toList.drop k) = E)
  case atStart => exact ⟨rfl, i + 1, by omega, by go_num, by have := HE.out; omega⟩
  case round =>
    obtain ⟨rfl, k, hk, rfl, hinv⟩ := hrel
    have HI : Aside (k + runE true 32 63 64 126 (s.data.toList.drop k) = E) := hinv
    clear hinv
    cases gk with
    | zero =>
      have hks : ¬ ((k : Int) < (s.size : Int)) := by omega
      go_wp2
      go_ret
      refine ⟨ret_int ?_, Below.refl _ _⟩
      have := HI.out
      rw [List.drop_eq_nil_of_le (by rw [← Lib.size_eq]; omega)] at this
      simp only [runE] at this
      omega
    | succ g =>
      have hks : ((k : Int) < (s.size : Int)) := by omega
      have hkn : k < s.size := by omega
      obtain ⟨x, hx⟩ : ∃ x : UInt8, s[k]'(by omega) = x := ⟨_, rfl⟩
      have hxl : s.data.toList[k]? = some x := by rw [← hx]; exact Lib.data_getElem? s k (by omega)
      have HD : Aside (s.data.toList.drop k = x :: s.data.toList.drop (k + 1)) := Lib.drop_at hxl
      have hx256 := x.toNat_lt
      clear hxl
      by_cases h1 : x.toNat < 32
      · have h1' : ¬ ((32 : Int) ≤ (x.toNat : Int)) := by omega
        have h2' : ¬ ((64 : Int) ≤ (x.toNat : Int)) := by omega
        clear h1
        go_wp2
        all_goals
          go_ret
          refine ⟨ret_int ?_, Below.refl _ _⟩
          have := HI.out
          rw [HD.out, runE_stop (inRun_lo (by omega)), fin_no (by omega)] at this
          omega
      · have h1' : ((32 : Int) ≤ (x.toNat : Int)) := by omega
        clear h1
        by_cases h2 : 63 < x.toNat
        · have h2' : ¬ ((x.toNat : Int) ≤ (63 : Int)) := by omega
          have h3' : ((64 : Int) ≤ (x.toNat : Int)) := by omega
          clear h2
          by_cases h4 : x.toNat ≤ 126
          · have h4' : ((x.toNat : Int) ≤ 126) := by omega
            by_cases h5 : x.toNat = 92
            · have h5' : ((x.toNat : Int) == 92) = true := by simp; omega
              have H5 : Hid (x.toNat = 92) := h5
              clear h5
              go_wp2
              all_goals
                go_ret
                refine ⟨ret_int ?_, Below.refl _ _⟩
                have := HI.out
                rw [HD.out, runE_stop (inRun_hi (by omega)), fin_no (by have := H5.out; simp; omega)] at this
                omega
            · have h5' : ((x.toNat : Int) == 92) = false := by simp; omega
              have H5 : Hid (¬ x.toNat = 92) := h5
              clear h5
              go_wp2
              all_goals
                go_ret
                refine ⟨ret_int ?_, Below.refl _ _⟩
                have := HI.out
                rw [HD.out, runE_stop (inRun_hi (by omega)), fin_yes (by omega) (by omega) (by intro h; exact H5.out h.2)] at this
                omega
          · have h4' : ¬ ((x.toNat : Int) ≤ 126) := by omega
            go_wp2
            all_goals
              go_ret
              refine ⟨ret_int ?_, Below.refl _ _⟩
              have := HI.out
              rw [HD.out, runE_stop (inRun_hi (by omega)), fin_no (by omega)] at this
              omega
        · have h2' : ((x.toNat : Int) ≤ (63 : Int)) := by omega
          have h3' : ¬ ((64 : Int) ≤ (x.toNat : Int)) := by omega
          clear h2
          by_cases h5 : x.toNat = 34
          · have h5' : ((x.toNat : Int) == 34) = true := by simp; omega
            have H5 : Hid (x.toNat = 34) := h5
            clear h5
            go_wp2
            all_goals
              go_ret
              refine ⟨ret_int ?_, Below.refl _ _⟩
              have := HI.out
              rw [HD.out, runE_stop (inRun_q H5.out), fin_no (by omega)] at this
              omega
          · have h5' : ((x.toNat : Int) == 34) = false := by simp; omega
            have H5 : Hid (¬ x.toNat = 34) := h5
            clear h5
            go_wp2
            go_roundg g
            case measure => omega
            case rel =>
              refine ⟨rfl, k + 1, by omega, by go_num, ?_⟩
              have := HI.out
              rw [HD.out, runE_step (inRun_in (by omega) (by omega) (by intro h; exact H5.out h.2))] at this
              omega

set_option maxHeartbeats 2000000 in
/-- ESC and intermediate bytes, then the final byte. -/
theorem seq_mid_f (s : ByteArray) (i : Nat) (E : Nat) (w : World) (hs : s.size < 4294967281) (hi : i < s.size) (hc1 : 32 ≤ (s[i]'hi).toNat) (hc2 : (s[i]'hi).toNat ≤ 47) (hE : i + runE false 32 47 48 126 (s.data.toList.drop i) = E) :
    Calls Tryd.prog 20 #[.string s, .int .i64 i, .bool false] w fun e w' => e = .returned (.int .i64 (E : Int)) ∧ Below w.heap.size w w' := by
  have HE : Hid (i + runE false 32 47 48 126 (s.data.toList.drop i) = E) := hE
  clear hE
  obtain ⟨c, hcc⟩ : ∃ c : UInt8, (s[i]'hi) = c := ⟨_, rfl⟩
  rw [hcc] at hc1 hc2
  have hne : ((i : Int) == (s.size : Int)) = false := by simp; omega
  have hii : (i : Int) < (s.size : Int) := by omega
  have hc1' : (32 : Int) ≤ (c.toNat : Int) := by omega
  have hc2' : (c.toNat : Int) ≤ 47 := by omega
  have e92 : ((c.toNat : Int) == 92) = false := by simp; omega
  have e91 : ((c.toNat : Int) == 91) = false := by simp; omega
  have e93 : ((c.toNat : Int) == 93) = false := by simp; omega
  have e80 : ((c.toNat : Int) == 80) = false := by simp; omega
  have e88 : ((c.toNat : Int) == 88) = false := by simp; omega
  have e94 : ((c.toNat : Int) == 94) = false := by simp; omega
  have e95 : ((c.toNat : Int) == 95) = false := by simp; omega
  clear hc1 hc2
  go_enter Tryd.func20, Tryd.ntmps20
  go_wp2_with fail
  go_loopg [1] (s.size - i) (fun g s1 wx => w = wx ∧ ∃ k : Nat, g + k = s.size ∧ s1 = .int .i64 k ∧ k + runE false 32 47 48 126 (s.data.toList.drop k) = E)
  case atStart => exact ⟨rfl, i, by omega, rfl, HE.out⟩
  case round =>
    obtain ⟨rfl, k, hk, rfl, hinv⟩ := hrel
    have HI : Aside (k + runE false 32 47 48 126 (s.data.toList.drop k) = E) := hinv
    clear hinv
    cases gk with
    | zero =>
      have hks : ¬ ((k : Int) < (s.size : Int)) := by omega
      go_wp2
      go_ret
      refine ⟨ret_int ?_, Below.refl _ _⟩
      have := HI.out
      rw [List.drop_eq_nil_of_le (by rw [← Lib.size_eq]; omega)] at this
      simp only [runE] at this
      omega
    | succ g =>
      have hks : ((k : Int) < (s.size : Int)) := by omega
      have hkn : k < s.size := by omega
      obtain ⟨x, hx⟩ : ∃ x : UInt8, s[k]'(by omega) = x := ⟨_, rfl⟩
      have hxl : s.data.toList[k]? = some x := by rw [← hx]; exact Lib.data_getElem? s k (by omega)
      have HD : Aside (s.data.toList.drop k = x :: s.data.toList.drop (k + 1)) := Lib.drop_at hxl
      have hx256 := x.toNat_lt
      clear hxl
      by_cases h1 : x.toNat < 32
      · have h1' : ¬ ((32 : Int) ≤ (x.toNat : Int)) := by omega
        have h2' : ¬ ((48 : Int) ≤ (x.toNat : Int)) := by omega
        clear h1
        go_wp2
        all_goals
          go_ret
          refine ⟨ret_int ?_, Below.refl _ _⟩
          have := HI.out
          rw [HD.out, runE_stop (inRun_lo (by omega)), fin_no (by omega)] at this
          omega
      · have h1' : ((32 : Int) ≤ (x.toNat : Int)) := by omega
        clear h1
        by_cases h2 : 47 < x.toNat
        · have h2' : ¬ ((x.toNat : Int) ≤ (47 : Int)) := by omega
          have h3' : ((48 : Int) ≤ (x.toNat : Int)) := by omega
          clear h2
          by_cases h4 : x.toNat ≤ 126
          · have h4' : ((x.toNat : Int) ≤ 126) := by omega
            go_wp2
            all_goals
              go_ret
              refine ⟨ret_int ?_, Below.refl _ _⟩
              have := HI.out
              rw [HD.out, runE_stop (inRun_hi (by omega)), fin_yes (by omega) (by omega) (by simp)] at this
              omega
          · have h4' : ¬ ((x.toNat : Int) ≤ 126) := by omega
            go_wp2
            all_goals
              go_ret
              refine ⟨ret_int ?_, Below.refl _ _⟩
              have := HI.out
              rw [HD.out, runE_stop (inRun_hi (by omega)), fin_no (by omega)] at this
              omega
        · have h2' : ((x.toNat : Int) ≤ (47 : Int)) := by omega
          have h3' : ¬ ((48 : Int) ≤ (x.toNat : Int)) := by omega
          clear h2
          go_wp2
          go_roundg g
          case measure => omega
          case rel =>
            refine ⟨rfl, k + 1, by omega, by go_num, ?_⟩
            have := HI.out
            rw [HD.out, runE_step (inRun_in (by omega) (by omega) (by simp))] at this
            omega

set_option maxHeartbeats 2000000 in
/-- ESC and intermediate bytes, then the final byte. -/
theorem seq_mid_t (s : ByteArray) (i : Nat) (E : Nat) (w : World) (hs : s.size < 4294967281) (hi : i < s.size) (hc1 : 32 ≤ (s[i]'hi).toNat) (hc2 : (s[i]'hi).toNat ≤ 47) (hq : ¬ (s[i]'hi).toNat = 34) (hE : i + runE true 32 47 48 126 (s.data.toList.drop i) = E) :
    Calls Tryd.prog 20 #[.string s, .int .i64 i, .bool true] w fun e w' => e = .returned (.int .i64 (E : Int)) ∧ Below w.heap.size w w' := by
  have HE : Hid (i + runE true 32 47 48 126 (s.data.toList.drop i) = E) := hE
  clear hE
  obtain ⟨c, hcc⟩ : ∃ c : UInt8, (s[i]'hi) = c := ⟨_, rfl⟩
  rw [hcc] at hc1 hc2 hq
  have hne : ((i : Int) == (s.size : Int)) = false := by simp; omega
  have hii : (i : Int) < (s.size : Int) := by omega
  have hc1' : (32 : Int) ≤ (c.toNat : Int) := by omega
  have hc2' : (c.toNat : Int) ≤ 47 := by omega
  have e34 : ((c.toNat : Int) == 34) = false := by simp; omega
  have e92 : ((c.toNat : Int) == 92) = false := by simp; omega
  have e91 : ((c.toNat : Int) == 91) = false := by simp; omega
  have e93 : ((c.toNat : Int) == 93) = false := by simp; omega
  have e80 : ((c.toNat : Int) == 80) = false := by simp; omega
  have e88 : ((c.toNat : Int) == 88) = false := by simp; omega
  have e94 : ((c.toNat : Int) == 94) = false := by simp; omega
  have e95 : ((c.toNat : Int) == 95) = false := by simp; omega
  clear hc1 hc2
  go_enter Tryd.func20, Tryd.ntmps20
  go_wp2_with fail
  go_loopg [1] (s.size - i) (fun g s1 wx => w = wx ∧ ∃ k : Nat, g + k = s.size ∧ s1 = .int .i64 k ∧ k + runE true 32 47 48 126 (s.data.toList.drop k) = E)
  case atStart => exact ⟨rfl, i, by omega, rfl, HE.out⟩
  case round =>
    obtain ⟨rfl, k, hk, rfl, hinv⟩ := hrel
    have HI : Aside (k + runE true 32 47 48 126 (s.data.toList.drop k) = E) := hinv
    clear hinv
    cases gk with
    | zero =>
      have hks : ¬ ((k : Int) < (s.size : Int)) := by omega
      go_wp2
      go_ret
      refine ⟨ret_int ?_, Below.refl _ _⟩
      have := HI.out
      rw [List.drop_eq_nil_of_le (by rw [← Lib.size_eq]; omega)] at this
      simp only [runE] at this
      omega
    | succ g =>
      have hks : ((k : Int) < (s.size : Int)) := by omega
      have hkn : k < s.size := by omega
      obtain ⟨x, hx⟩ : ∃ x : UInt8, s[k]'(by omega) = x := ⟨_, rfl⟩
      have hxl : s.data.toList[k]? = some x := by rw [← hx]; exact Lib.data_getElem? s k (by omega)
      have HD : Aside (s.data.toList.drop k = x :: s.data.toList.drop (k + 1)) := Lib.drop_at hxl
      have hx256 := x.toNat_lt
      clear hxl
      by_cases h1 : x.toNat < 32
      · have h1' : ¬ ((32 : Int) ≤ (x.toNat : Int)) := by omega
        have h2' : ¬ ((48 : Int) ≤ (x.toNat : Int)) := by omega
        clear h1
        go_wp2
        all_goals
          go_ret
          refine ⟨ret_int ?_, Below.refl _ _⟩
          have := HI.out
          rw [HD.out, runE_stop (inRun_lo (by omega)), fin_no (by omega)] at this
          omega
      · have h1' : ((32 : Int) ≤ (x.toNat : Int)) := by omega
        clear h1
        by_cases h2 : 47 < x.toNat
        · have h2' : ¬ ((x.toNat : Int) ≤ (47 : Int)) := by omega
          have h3' : ((48 : Int) ≤ (x.toNat : Int)) := by omega
          clear h2
          by_cases h4 : x.toNat ≤ 126
          · have h4' : ((x.toNat : Int) ≤ 126) := by omega
            by_cases h5 : x.toNat = 92
            · have h5' : ((x.toNat : Int) == 92) = true := by simp; omega
              have H5 : Hid (x.toNat = 92) := h5
              clear h5
              go_wp2
              all_goals
                go_ret
                refine ⟨ret_int ?_, Below.refl _ _⟩
                have := HI.out
                rw [HD.out, runE_stop (inRun_hi (by omega)), fin_no (by have := H5.out; simp; omega)] at this
                omega
            · have h5' : ((x.toNat : Int) == 92) = false := by simp; omega
              have H5 : Hid (¬ x.toNat = 92) := h5
              clear h5
              go_wp2
              all_goals
                go_ret
                refine ⟨ret_int ?_, Below.refl _ _⟩
                have := HI.out
                rw [HD.out, runE_stop (inRun_hi (by omega)), fin_yes (by omega) (by omega) (by intro h; exact H5.out h.2)] at this
                omega
          · have h4' : ¬ ((x.toNat : Int) ≤ 126) := by omega
            go_wp2
            all_goals
              go_ret
              refine ⟨ret_int ?_, Below.refl _ _⟩
              have := HI.out
              rw [HD.out, runE_stop (inRun_hi (by omega)), fin_no (by omega)] at this
              omega
        · have h2' : ((x.toNat : Int) ≤ (47 : Int)) := by omega
          have h3' : ¬ ((48 : Int) ≤ (x.toNat : Int)) := by omega
          clear h2
          by_cases h5 : x.toNat = 34
          · have h5' : ((x.toNat : Int) == 34) = true := by simp; omega
            have H5 : Hid (x.toNat = 34) := h5
            clear h5
            go_wp2
            all_goals
              go_ret
              refine ⟨ret_int ?_, Below.refl _ _⟩
              have := HI.out
              rw [HD.out, runE_stop (inRun_q H5.out), fin_no (by omega)] at this
              omega
          · have h5' : ((x.toNat : Int) == 34) = false := by simp; omega
            have H5 : Hid (¬ x.toNat = 34) := h5
            clear h5
            go_wp2
            go_roundg g
            case measure => omega
            case rel =>
              refine ⟨rfl, k + 1, by omega, by go_num, ?_⟩
              have := HI.out
              rw [HD.out, runE_step (inRun_in (by omega) (by omega) (by intro h; exact H5.out h.2))] at this
              omega

end Go.Proofs.Qxb6603183aDoor
