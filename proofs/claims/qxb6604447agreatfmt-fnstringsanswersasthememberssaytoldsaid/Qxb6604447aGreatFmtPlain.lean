/-
  The plain layer: how zzAppendString writes a text, what UTF-8 is, and that the written text decodes as the text does. No Go in sight.
-/
import Derived.Lib.DecodeN
import Derived.Lib.IndexBytes
namespace Go.Proofs.Qxb6604447aGreatFmt

def hexd (d : Nat) : Nat := if d < 10 then 48 + d else 87 + d
/-- One byte as zzAppendString writes it. -/
def encC (c : UInt8) : List UInt8 :=
  if c.toNat = 34 ∨ c.toNat = 92 then [92, c]
  else if c.toNat < 32 then [92, 117, 48, 48, (hexd (c.toNat / 16)).toUInt8, (hexd (c.toNat % 16)).toUInt8]
  else [c]
def encB : List UInt8 → List UInt8
  | [] => []
  | c :: l => encC c ++ encB l
def enc (t : List UInt8) : List UInt8 := 34 :: (encB t ++ [34])

/-- The decoder at the head of a list. -/
def dec (l : List UInt8) : Nat × Nat := Lib.decodeN l.length (l.getD 0 0).toNat (l.getD 1 0).toNat (l.getD 2 0).toNat (l.getD 3 0).toNat
def validF : Nat → List UInt8 → Bool
  | 0, _ => true
  | _ + 1, [] => true
  | f + 1, c :: r => if c.toNat < 128 then validF f r else if (dec (c :: r)).2 = 1 then false else validF f ((c :: r).drop (dec (c :: r)).2)
/-- Is the text UTF-8? -/
def valid (l : List UInt8) : Bool := validF l.length l

theorem dec_ge1 (l : List UInt8) : 1 ≤ (dec l).2 := by
  unfold dec Lib.decodeN
  repeat' split
  all_goals simp
theorem validF_more : ∀ (f g : Nat) (l : List UInt8), l.length ≤ f → l.length ≤ g → validF f l = validF g l
  | 0, g, l, h1, _ => by
    have : l = [] := List.eq_nil_of_length_eq_zero (by omega)
    subst this; cases g <;> rfl
  | f + 1, 0, l, _, h2 => by
    have : l = [] := List.eq_nil_of_length_eq_zero (by omega)
    subst this; rfl
  | f + 1, g + 1, [], _, _ => rfl
  | f + 1, g + 1, c :: l, h1, h2 => by
    have hd := dec_ge1 (c :: l)
    simp only [List.length_cons] at h1 h2
    simp only [validF]
    split
    · exact validF_more f g l (by omega) (by omega)
    · split
      · rfl
      · refine validF_more f g _ ?_ ?_ <;> simp only [List.length_drop, List.length_cons] <;> omega
theorem valid_nil : valid [] = true := rfl
theorem valid_ascii {c : UInt8} {l : List UInt8} (h : c.toNat < 128) : valid (c :: l) = valid l := by
  simp only [valid, List.length_cons, validF, h, if_true]
theorem valid_bad {c : UInt8} {l : List UInt8} (h : ¬ c.toNat < 128) (h2 : (dec (c :: l)).2 = 1) : valid (c :: l) = false := by
  simp only [valid, List.length_cons, validF, h, h2, if_true, if_false]
theorem valid_rune {c : UInt8} {l : List UInt8} (h : ¬ c.toNat < 128) (h2 : ¬ (dec (c :: l)).2 = 1) : valid (c :: l) = valid ((c :: l).drop (dec (c :: l)).2) := by
  have hd := dec_ge1 (c :: l)
  have e : valid (c :: l) = validF l.length ((c :: l).drop (dec (c :: l)).2) := by
    simp only [valid, List.length_cons, validF, h, h2, if_false]
  rw [e, valid]
  refine validF_more _ _ _ ?_ (Nat.le_refl _)
  simp only [List.length_drop, List.length_cons]
  omega

/-- The bytes from 128 on at the head, n of them at the most. -/
def pre : Nat → List UInt8 → List UInt8
  | 0, _ => []
  | _ + 1, [] => []
  | n + 1, x :: l => if 128 ≤ x.toNat then x :: pre n l else []

section
variable {n n' b0 b1 b2 b3 b2' b3' : Nat}
theorem dN_1 {b1' : Nat} (h : ¬ b0 < 128) (p : ¬ (1 < n ∧ b1 / 64 = 2)) (p' : ¬ (1 < n' ∧ b1' / 64 = 2)) : Lib.decodeN n b0 b1 b2 b3 = Lib.decodeN n' b0 b1' b2' b3' := by
  simp only [Lib.decodeN, h, p, p', false_and, and_false, if_false]
theorem dN_2 (h : ¬ b0 < 128) (p : 1 < n ∧ b1 / 64 = 2) (p' : 1 < n' ∧ b1 / 64 = 2) (q : ¬ (2 < n ∧ b2 / 64 = 2)) (q' : ¬ (2 < n' ∧ b2' / 64 = 2)) : Lib.decodeN n b0 b1 b2 b3 = Lib.decodeN n' b0 b1 b2' b3' := by
  simp only [Lib.decodeN, h, p.1, p.2, p'.1, q, q', false_and, and_false, if_false, and_true]
theorem dN_3 (h : ¬ b0 < 128) (p : 1 < n ∧ b1 / 64 = 2) (p' : 1 < n' ∧ b1 / 64 = 2) (q : 2 < n ∧ b2 / 64 = 2) (q' : 2 < n' ∧ b2 / 64 = 2) (r : ¬ (3 < n ∧ b3 / 64 = 2)) (r' : ¬ (3 < n' ∧ b3' / 64 = 2)) : Lib.decodeN n b0 b1 b2 b3 = Lib.decodeN n' b0 b1 b2 b3' := by
  simp only [Lib.decodeN, h, p.1, p.2, p'.1, q.1, q.2, q'.1, r, r', and_false, if_false, and_true]
theorem dN_4 (h : ¬ b0 < 128) (p : 1 < n ∧ b1 / 64 = 2) (p' : 1 < n' ∧ b1 / 64 = 2) (q : 2 < n ∧ b2 / 64 = 2) (q' : 2 < n' ∧ b2 / 64 = 2) (r : 3 < n ∧ b3 / 64 = 2) (r' : 3 < n' ∧ b3 / 64 = 2) : Lib.decodeN n b0 b1 b2 b3 = Lib.decodeN n' b0 b1 b2 b3 := by
  simp only [Lib.decodeN, h, p.1, p.2, p'.1, q.1, q.2, q'.1, r.1, r.2, r'.1, if_false, and_true]
end
/-- The decoder looks at no more than the bytes from 128 on that stand behind the head. -/
theorem dec_pre (c : UInt8) (hc : ¬ c.toNat < 128) : ∀ A : List UInt8, dec (c :: A) = dec (c :: pre 3 A)
  | [] => rfl
  | x1 :: A1 => by
    by_cases h1 : x1.toNat / 64 = 2
    · have g1 : 128 ≤ x1.toNat := by omega
      match A1 with
      | [] => simp only [pre, g1, if_true]
      | x2 :: A2 =>
        by_cases h2 : x2.toNat / 64 = 2
        · have g2 : 128 ≤ x2.toNat := by omega
          match A2 with
          | [] => simp only [pre, g1, g2, if_true]
          | x3 :: A3 =>
            by_cases h3 : x3.toNat / 64 = 2
            · have g3 : 128 ≤ x3.toNat := by omega
              simp only [pre, g1, g2, g3, if_true]
              exact dN_4 hc ⟨by simp, h1⟩ ⟨by simp, h1⟩ ⟨by simp, h2⟩ ⟨by simp, h2⟩ ⟨by simp, h3⟩ ⟨by simp, h3⟩
            · by_cases g3 : 128 ≤ x3.toNat
              · simp only [pre, g1, g2, g3, if_true]
                exact dN_3 hc ⟨by simp, h1⟩ ⟨by simp, h1⟩ ⟨by simp, h2⟩ ⟨by simp, h2⟩ (fun h => h3 h.2) (fun h => h3 h.2)
              · simp only [pre, g1, g2, g3, if_true, if_false]
                exact dN_3 hc ⟨by simp, h1⟩ ⟨by simp, h1⟩ ⟨by simp, h2⟩ ⟨by simp, h2⟩ (fun h => h3 h.2) (fun h => by simp at h)
        · by_cases g2 : 128 ≤ x2.toNat
          · simp only [pre, g1, g2, if_true]
            exact dN_2 hc ⟨by simp, h1⟩ ⟨by simp, h1⟩ (fun h => h2 h.2) (fun h => h2 h.2)
          · simp only [pre, g1, g2, if_true, if_false]
            exact dN_2 hc ⟨by simp, h1⟩ ⟨by simp, h1⟩ (fun h => h2 h.2) (fun h => by simp at h)
    · by_cases g1 : 128 ≤ x1.toNat
      · simp only [pre, g1, if_true]
        exact dN_1 hc (fun h => h1 h.2) (fun h => h1 h.2)
      · simp only [pre, g1, if_false]
        exact dN_1 hc (fun h => h1 h.2) (fun h => by simp at h)

theorem encC_high {c : UInt8} (h : 128 ≤ c.toNat) : encC c = [c] := by
  unfold encC; rw [if_neg (by omega), if_neg (by omega)]
theorem encC_plain {c : UInt8} (h : 32 ≤ c.toNat) (h1 : c.toNat ≠ 34) (h2 : c.toNat ≠ 92) : encC c = [c] := by
  unfold encC; rw [if_neg (by omega), if_neg (by omega)]
theorem encC_esc {c : UInt8} (h : c.toNat = 34 ∨ c.toNat = 92) : encC c = [92, c] := by
  unfold encC; rw [if_pos h]
theorem encC_ctl {c : UInt8} (h : c.toNat < 32) : encC c = [92, 117, 48, 48, (hexd (c.toNat / 16)).toUInt8, (hexd (c.toNat % 16)).toUInt8] := by
  unfold encC; rw [if_neg (by omega), if_pos h]
theorem encC_low {c : UInt8} (h : ¬ 128 ≤ c.toNat) : ∃ x l, encC c = x :: l ∧ ¬ 128 ≤ x.toNat := by
  unfold encC
  split
  · exact ⟨92, _, rfl, by decide⟩
  · split
    · exact ⟨92, _, rfl, by decide⟩
    · exact ⟨c, _, rfl, h⟩
theorem pre_enc : ∀ (n : Nat) (r rest : List UInt8), pre n (encB r ++ 34 :: rest) = pre n r
  | 0, _, _ => rfl
  | n + 1, [], rest => by simp [pre, encB]
  | n + 1, x :: r, rest => by
    by_cases h : 128 ≤ x.toNat
    · simp only [encB, encC_high h, List.cons_append, List.nil_append, pre, h, if_true, pre_enc n r rest]
    · obtain ⟨y, l, e, hy⟩ := encC_low h
      simp only [encB, e, List.cons_append, pre, hy, h, if_false]
/-- The written text decodes as the text does. -/
theorem dec_enc (c : UInt8) (hc : ¬ c.toNat < 128) (r rest : List UInt8) : dec (encB (c :: r) ++ 34 :: rest) = dec (c :: r) := by
  have e : encB (c :: r) ++ 34 :: rest = c :: (encB r ++ 34 :: rest) := by simp [encB, encC_high (show 128 ≤ c.toNat by omega)]
  rw [e, dec_pre c hc, pre_enc, ← dec_pre c hc]

/-- The bytes of a rune that decodes are all from 128 on. -/
theorem dec_take (c : UInt8) (hc : ¬ c.toNat < 128) (r : List UInt8) (h : ¬ (dec (c :: r)).2 = 1) : (dec (c :: r)).2 ≤ (c :: r).length ∧ ∀ b ∈ (c :: r).take (dec (c :: r)).2, 128 ≤ b.toNat := by
  have key : ∀ (k : Nat), (dec (c :: r)).2 = k → k ≤ (pre 3 r).length + 1 := by
    intro k hk
    rw [dec_pre c hc] at hk
    have hn : ¬ (dec (c :: pre 3 r)).2 = 1 := by rw [← dec_pre c hc]; exact h
    generalize pre 3 r = A at hk hn
    unfold dec Lib.decodeN at hk hn
    simp only [List.length_cons] at hk hn
    split at hk
    · rename_i h0; exact absurd h0 hc
    · split at hk
      · rename_i h1; split at hk <;> (simp only at hk; omega)
      · split at hk
        · rename_i h1; split at hk <;> (simp only at hk; omega)
        · split at hk
          · rename_i h1; split at hk <;> (simp only at hk; omega)
          · simp only at hk; omega
  have hpl : ∀ (n : Nat) (l : List UInt8), (pre n l).length ≤ l.length ∧ ∀ b ∈ l.take (pre n l).length, 128 ≤ b.toNat := by
    intro n
    induction n with
    | zero => intro l; exact ⟨Nat.zero_le _, fun b hb => by simp [pre] at hb⟩
    | succ n ih =>
      intro l
      cases l with
      | nil => exact ⟨Nat.le_refl _, fun b hb => by simp at hb⟩
      | cons x l =>
        by_cases hx : 128 ≤ x.toNat
        · obtain ⟨i1, i2⟩ := ih l
          simp only [pre, hx, if_true, List.length_cons, List.take_succ_cons]
          refine ⟨by omega, fun b hb => ?_⟩
          rcases List.mem_cons.1 hb with rfl | hb
          · exact hx
          · exact i2 b hb
        · simp only [pre, hx, if_false]
          exact ⟨Nat.zero_le _, fun b hb => by simp at hb⟩
  have h1 := key _ rfl
  obtain ⟨h2, h3⟩ := hpl 3 r
  refine ⟨by simp only [List.length_cons]; omega, fun b hb => ?_⟩
  obtain ⟨m, hm⟩ : ∃ m, (dec (c :: r)).2 = m + 1 := ⟨(dec (c :: r)).2 - 1, by have := dec_ge1 (c :: r); omega⟩
  rw [hm, List.take_succ_cons] at hb
  rcases List.mem_cons.1 hb with rfl | hb
  · omega
  · exact h3 b (List.Sublist.subset (List.take_sublist_take_left (by omega)) hb)
theorem encB_high : ∀ l : List UInt8, (∀ b ∈ l, 128 ≤ b.toNat) → encB l = l
  | [], _ => rfl
  | c :: l, h => by rw [encB, encC_high (h c (by simp)), encB_high l (fun b hb => h b (by simp [hb]))]; rfl
theorem encB_append : ∀ a b : List UInt8, encB (a ++ b) = encB a ++ encB b
  | [], _ => rfl
  | c :: a, b => by rw [List.cons_append, encB, encB, encB_append a b, List.append_assoc]
end Go.Proofs.Qxb6604447aGreatFmt
