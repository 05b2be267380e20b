/-
  The plain functions that term.go's scanners compute, over lists of bytes; no Go in sight.
-/
import Derived.Lib.Strings
import Derived.Lib.IndexBytes
import Derived.Lib.Fold
namespace Go.Proofs.Qxb6603183aDoor

/-- hasPrefixFold. -/
def hpf (l p : List UInt8) : Bool := decide (p.length ≤ l.length) && Lib.equalFold (l.take p.length) p
/-- controlAt, at the head of l. -/
def ctl (c : Int) (p l : List UInt8) : Nat := match l with
  | [] => 0
  | x :: l => if (x.toNat : Int) = c then 1 else if x.toNat = 92 ∧ hpf (x :: l) p = true then p.length else 0
def escL : List UInt8 := [92, 117, 48, 48, 49, 98]
def belL : List UInt8 := [92, 117, 48, 48, 48, 55]
def belN (l : List UInt8) : Nat := ctl 7 belL l
def escN (l : List UInt8) : Nat := ctl 27 escL l
/-- The backslash that ends a control string behind an ESC of length n. -/
def bsl (n : Nat) : List UInt8 := if 1 < n then [92, 92] else [92]
/-- Does the control string end here, and how far on? -/
def strH (j : Bool) (l : List UInt8) : Option Nat :=
  if 0 < belN l then some (belN l)
  else if 0 < escN l then (if Lib.hasPrefix (l.drop (escN l)) (bsl (escN l)) then some (escN l + (bsl (escN l)).length) else some 0)
  else if j = true ∧ l.head? = some 34 then some 0
  else none
/-- stringEnd: how many bytes of l it takes; 'k': the byte at the head is the second one of a JSON escape. -/
def strS (j : Bool) : Bool → List UInt8 → Nat
  | _, [] => 0
  | true, _ :: l => 1 + strS j false l
  | false, c :: l => match strH j (c :: l) with
    | some n => n
    | none => 1 + strS j (j && decide (c.toNat = 92)) l
def strE (j : Bool) (l : List UInt8) : Nat := strS j false l

theorem strE_nil (j : Bool) : strE j [] = 0 := rfl
theorem strE_some {j : Bool} {c : UInt8} {l : List UInt8} {n : Nat} (h : strH j (c :: l) = some n) : strE j (c :: l) = n := by
  simp only [strE, strS, h]
theorem strE_one {j : Bool} {c : UInt8} {l : List UInt8} (h : strH j (c :: l) = none) (h2 : ¬ (j = true ∧ c.toNat = 92)) : strE j (c :: l) = 1 + strE j l := by
  have e : (j && decide (c.toNat = 92)) = false := by
    cases j <;> simp_all
  simp only [strE, strS, h, e]
theorem strE_two {j : Bool} {c d : UInt8} {l : List UInt8} (h : strH j (c :: d :: l) = none) (h2 : j = true ∧ c.toNat = 92) : strE j (c :: d :: l) = 2 + strE j l := by
  have e : (j && decide (c.toNat = 92)) = true := by simp [h2]
  simp only [strE, strS, h, e]
  omega
theorem strE_last {j : Bool} {c : UInt8} (h : strH j [c] = none) : strE j [c] = 1 := by
  simp only [strE, strS, h]

theorem hpf_len {l p : List UInt8} (h : hpf l p = true) : p.length ≤ l.length := by
  simp only [hpf, Bool.and_eq_true, decide_eq_true_eq] at h
  exact h.1
theorem ctl_le (c : Int) (p l : List UInt8) : ctl c p l ≤ l.length := by
  unfold ctl
  split
  · exact Nat.zero_le _
  · split
    · simp
    · split
      · rename_i h; exact hpf_len h.2
      · exact Nat.zero_le _
theorem hasPrefix_len {l p : List UInt8} (h : Lib.hasPrefix l p = true) : p.length ≤ l.length := by
  rw [← Lib.hasPrefix_of_take] at h
  simp only [Bool.and_eq_true, decide_eq_true_eq] at h
  exact h.1
theorem strH_le {j : Bool} {l : List UInt8} {n : Nat} (h : strH j l = some n) : n ≤ l.length := by
  unfold strH at h
  split at h
  · cases h; exact ctl_le _ _ _
  · split at h
    · split at h
      · rename_i hp
        have := hasPrefix_len hp
        have h2 := ctl_le 27 escL l
        simp only [List.length_drop] at this
        cases h
        unfold escN at *
        omega
      · cases h; exact Nat.zero_le _
    · split at h
      · cases h; exact Nat.zero_le _
      · cases h
theorem strS_le (j : Bool) : ∀ (k : Bool) (l : List UInt8), strS j k l ≤ l.length
  | true, [] => Nat.le_refl _
  | false, [] => Nat.le_refl _
  | true, _ :: l => by have := strS_le j false l; simp only [strS, List.length_cons]; omega
  | false, c :: l => by
    have := strS_le j (j && decide (c.toNat = 92)) l
    simp only [strS, List.length_cons]
    split
    · rename_i n h; exact strH_le h
    · omega
theorem strE_le (j : Bool) (l : List UInt8) : strE j l ≤ l.length := strS_le j false l

/-- A run of bytes within lo .. hi (in JSON mode no quote), then one final byte within flo .. fhi (in JSON mode no backslash). -/
def inRun (j : Bool) (lo hi : Nat) (c : UInt8) : Bool := decide (lo ≤ c.toNat) && decide (c.toNat ≤ hi) && !(j && decide (c.toNat = 34))
def fin (j : Bool) (flo fhi : Nat) : List UInt8 → Nat
  | [] => 0
  | d :: _ => if flo ≤ d.toNat ∧ d.toNat ≤ fhi ∧ ¬ (j = true ∧ d.toNat = 92) then 1 else 0
def runE (j : Bool) (lo hi flo fhi : Nat) : List UInt8 → Nat
  | [] => 0
  | c :: l => if inRun j lo hi c then 1 + runE j lo hi flo fhi l else fin j flo fhi (c :: l)
/-- sequenceEnd: how many bytes of l it takes. -/
def seqE (j : Bool) : List UInt8 → Nat
  | [] => 0
  | c :: l =>
    if j = true ∧ (c.toNat = 34 ∨ c.toNat = 92) then (if c.toNat = 92 ∧ Lib.hasPrefix (c :: l) [92, 92] = true then 2 else 0)
    else if c.toNat = 91 then 1 + runE j 32 63 64 126 l
    else if c.toNat = 93 ∨ c.toNat = 80 ∨ c.toNat = 88 ∨ c.toNat = 94 ∨ c.toNat = 95 then 1 + strE j l
    else if 32 ≤ c.toNat ∧ c.toNat ≤ 47 then runE j 32 47 48 126 (c :: l)
    else if 48 ≤ c.toNat ∧ c.toNat ≤ 126 then 1 else 0

theorem fin_le (j : Bool) (flo fhi : Nat) (l : List UInt8) : fin j flo fhi l ≤ l.length := by
  cases l with
  | nil => exact Nat.le_refl _
  | cons d l => simp only [fin, List.length_cons]; split <;> omega
theorem runE_le (j : Bool) (lo hi flo fhi : Nat) : ∀ l : List UInt8, runE j lo hi flo fhi l ≤ l.length
  | [] => Nat.le_refl _
  | c :: l => by
    simp only [runE]
    split
    · have := runE_le j lo hi flo fhi l; simp only [List.length_cons]; omega
    · exact fin_le _ _ _ _
theorem seqE_le (j : Bool) (l : List UInt8) : seqE j l ≤ l.length := by
  cases l with
  | nil => exact Nat.le_refl _
  | cons c l =>
    simp only [seqE]
    repeat' split
    · rename_i h; exact hasPrefix_len h.2
    · exact Nat.zero_le _
    · have := runE_le j 32 63 64 126 l; simp only [List.length_cons]; omega
    · have := strE_le j l; simp only [List.length_cons]; omega
    · exact runE_le _ _ _ _ _ _
    · simp
    · exact Nat.zero_le _
end Go.Proofs.Qxb6603183aDoor
