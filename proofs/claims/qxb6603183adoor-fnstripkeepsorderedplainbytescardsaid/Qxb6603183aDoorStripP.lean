/-
  The plain functions that containsFold and Strip compute, and the two laws on them; no Go in sight.
-/
import Derived.Test.Qxb6603183aDoorPlain
import Derived.Lib.Bytealg
namespace Go.Proofs.Qxb6603183aDoor

/-- containsFold. -/
def cF (p : List UInt8) : List UInt8 → Bool
  | [] => false
  | c :: l => (decide (c.toNat = 92) && hpf (c :: l) p) || cF p l
/-- Strip's loop, with as many rounds as are wanted. -/
def stripF : Nat → List UInt8 → List UInt8
  | 0, _ => []
  | _ + 1, [] => []
  | f + 1, c :: l => if escN (c :: l) = 0 then c :: stripF f l else stripF f ((c :: l).drop (escN (c :: l) + seqE (decide (1 < escN (c :: l))) ((c :: l).drop (escN (c :: l)))))
def strip (l : List UInt8) : List UInt8 := stripF l.length l

theorem stripF_nil (f : Nat) : stripF f [] = [] := by cases f <;> rfl
/-- Rounds beyond the length change nothing. -/
theorem stripF_more : ∀ (f g : Nat) (l : List UInt8), l.length ≤ f → l.length ≤ g → stripF f l = stripF g l
  | 0, g, l, h1, _ => by
    have : l = [] := List.eq_nil_of_length_eq_zero (by omega)
    rw [this, stripF_nil, stripF_nil]
  | f + 1, 0, l, _, h2 => by
    have : l = [] := List.eq_nil_of_length_eq_zero (by omega)
    rw [this, stripF_nil, stripF_nil]
  | f + 1, g + 1, [], _, _ => rfl
  | f + 1, g + 1, c :: l, h1, h2 => by
    simp only [List.length_cons] at h1 h2
    simp only [stripF]
    split
    · rw [stripF_more f g l (by omega) (by omega)]
    · rename_i hn
      refine stripF_more f g _ ?_ ?_ <;> simp only [List.length_drop, List.length_cons] <;> omega
theorem strip_nil : strip [] = [] := rfl
theorem strip_plain {c : UInt8} {l : List UInt8} (h : escN (c :: l) = 0) : strip (c :: l) = c :: strip l := by
  simp only [strip, List.length_cons, stripF, h, if_true]
theorem strip_esc {l : List UInt8} (h : 0 < escN l) : strip l = strip (l.drop (escN l + seqE (decide (1 < escN l)) (l.drop (escN l)))) := by
  cases l with
  | nil => simp [escN, ctl] at h
  | cons c l =>
    have e : strip (c :: l) = stripF l.length ((c :: l).drop (escN (c :: l) + seqE (decide (1 < escN (c :: l))) ((c :: l).drop (escN (c :: l))))) := by
      simp only [strip, List.length_cons, stripF]
      rw [if_neg (by omega)]
    rw [e, strip]
    refine stripF_more _ _ _ ?_ (Nat.le_refl _)
    simp only [List.length_drop, List.length_cons]
    omega

theorem escN_raw {c : UInt8} {l : List UInt8} (h : c.toNat = 27) : escN (c :: l) = 1 := by
  simp only [escN, ctl]; rw [if_pos (by omega)]
theorem escN_lit {c : UInt8} {l : List UInt8} (h : c.toNat = 92) (h2 : hpf (c :: l) escL = true) : escN (c :: l) = 6 := by
  simp only [escN, ctl]; rw [if_neg (by omega), if_pos ⟨h, h2⟩]; rfl
theorem escN_none {c : UInt8} {l : List UInt8} (h : ¬ c.toNat = 27) (h2 : ¬ (c.toNat = 92 ∧ hpf (c :: l) escL = true)) : escN (c :: l) = 0 := by
  simp only [escN, ctl]; rw [if_neg (by omega), if_neg h2]
theorem escN_plain {c : UInt8} {l : List UInt8} (h1 : c.toNat ≠ 27) (h2 : c.toNat ≠ 92) : escN (c :: l) = 0 := by
  simp only [escN, ctl]
  rw [if_neg (by omega), if_neg (by omega)]
/-- Strip passes a plain prefix. -/
theorem strip_append (a s : List UInt8) (h : ∀ b ∈ a, b.toNat ≠ 27 ∧ b.toNat ≠ 92) : strip (a ++ s) = a ++ strip s := by
  induction a with
  | nil => rfl
  | cons c a ih =>
    have hc := h c (by simp)
    rw [List.cons_append, strip_plain (escN_plain hc.1 hc.2), ih (fun b hb => h b (by simp [hb])), List.cons_append]

/-- Where no ESC stands, Strip's loop keeps all. -/
theorem strip_all : ∀ l : List UInt8, (∀ b ∈ l, b.toNat ≠ 27) → cF escL l = false → strip l = l
  | [], _, _ => rfl
  | c :: l, h, hc => by
    simp only [cF, Bool.or_eq_false_iff, Bool.and_eq_false_iff, decide_eq_false_iff_not] at hc
    have h27 := h c (by simp)
    have e : escN (c :: l) = 0 := by
      simp only [escN, ctl]
      rw [if_neg (by omega), if_neg]
      rintro ⟨a, b⟩
      rcases hc.1 with h | h
      · exact h a
      · rw [h] at b; cases b
    rw [strip_plain e, strip_all l (fun b hb => h b (by simp [hb])) hc.2]

/-- Some place holds an ESC, raw or written out. -/
def hasE : List UInt8 → Bool
  | [] => false
  | c :: l => decide (0 < escN (c :: l)) || hasE l
theorem hasE_iff : ∀ l : List UInt8, hasE l = (l.any (fun b => decide (b.toNat = 27)) || cF escL l)
  | [] => rfl
  | c :: l => by
    simp only [hasE, cF, List.any_cons, hasE_iff l]
    have e : decide (0 < escN (c :: l)) = (decide (c.toNat = 27) || (decide (c.toNat = 92) && hpf (c :: l) escL)) := by
      by_cases h1 : c.toNat = 27
      · rw [escN_raw h1]; simp [h1]
      · by_cases h2 : c.toNat = 92 ∧ hpf (c :: l) escL = true
        · rw [escN_lit h2.1 h2.2]; simp [h2.1, h2.2]
        · rw [escN_none h1 h2]
          by_cases h3 : c.toNat = 92
          · have : hpf (c :: l) escL = false := by
              cases hh : hpf (c :: l) escL
              · rfl
              · exact absurd ⟨h3, hh⟩ h2
            simp [this, h1]
          · simp [h1, h3]
    rw [e]
    cases decide (c.toNat = 27) <;> cases (decide (c.toNat = 92) && hpf (c :: l) escL) <;> cases l.any (fun b => decide (b.toNat = 27)) <;> cases cF escL l <;> rfl
theorem strip_none : ∀ l : List UInt8, hasE l = false → strip l = l
  | [], _ => rfl
  | c :: l, h => by
    simp only [hasE, Bool.or_eq_false_iff, decide_eq_false_iff_not] at h
    rw [strip_plain (by omega), strip_none l h.2]
theorem stripF_sub : ∀ (f : Nat) (l : List UInt8), List.Sublist (stripF f l) l
  | 0, l => List.nil_sublist _
  | f + 1, [] => List.Sublist.refl _
  | f + 1, c :: l => by
    simp only [stripF]
    split
    · exact (stripF_sub f l).cons_cons c
    · exact (stripF_sub f _).trans (List.drop_sublist _ _)
theorem strip_sub (l : List UInt8) : List.Sublist (strip l) l := stripF_sub _ l
theorem strip_some : ∀ l : List UInt8, hasE l = true → (strip l).length < l.length
  | [], h => by cases h
  | c :: l, h => by
    by_cases h0 : 0 < escN (c :: l)
    · rw [strip_esc h0]
      have := (strip_sub ((c :: l).drop (escN (c :: l) + seqE (decide (1 < escN (c :: l))) ((c :: l).drop (escN (c :: l)))))).length_le
      simp only [List.length_drop, List.length_cons] at this ⊢
      omega
    · have e0 : escN (c :: l) = 0 := by omega
      simp only [hasE, e0, Nat.lt_irrefl, decide_false, Bool.false_or] at h
      rw [strip_plain e0]
      have := strip_some l h
      simp only [List.length_cons]
      omega
theorem stripF_clean : ∀ (f : Nat) (l : List UInt8), ∀ b ∈ stripF f l, b.toNat ≠ 27
  | 0, l, b, hb => by simp [stripF] at hb
  | f + 1, [], b, hb => by simp [stripF] at hb
  | f + 1, c :: l, b, hb => by
    simp only [stripF] at hb
    split at hb
    · rename_i h0
      rcases List.mem_cons.1 hb with rfl | hb
      · intro h
        simp only [escN, ctl] at h0
        rw [if_pos (by omega)] at h0
        cases h0
      · exact stripF_clean f l b hb
    · exact stripF_clean f _ b hb
theorem strip_clean (l : List UInt8) : ∀ b ∈ strip l, b.toNat ≠ 27 := stripF_clean _ l
theorem strip_eq (l : List UInt8) : (strip l == l) = !hasE l := by
  cases h : hasE l
  · rw [strip_none l h]; simp
  · have := strip_some l h
    have hne : strip l ≠ l := fun e => by rw [e] at this; omega
    simpa using hne

/-- The two-pointer match: how far r is matched by s from the left. -/
def greedy : List UInt8 → List UInt8 → Nat
  | _, [] => 0
  | [], _ :: _ => 0
  | x :: s, y :: r => if x = y then 1 + greedy s r else greedy s (y :: r)
theorem sublist_of_cons {x : UInt8} {s r : List UInt8} (h : List.Sublist (x :: r) (x :: s)) : List.Sublist r s := List.cons_sublist_cons.1 h
theorem greedy_sub : ∀ (s r : List UInt8), List.Sublist r s → greedy s r = r.length
  | s, [], _ => by cases s <;> rfl
  | [], y :: r, h => by cases h
  | x :: s, y :: r, h => by
    simp only [greedy]
    by_cases e : x = y
    · subst e
      rw [if_pos rfl, greedy_sub s r (sublist_of_cons h), List.length_cons]
      omega
    · rw [if_neg e]
      cases h with
      | cons _ h => exact greedy_sub s (y :: r) h
      | cons_cons _ h => exact absurd rfl e
theorem greedy_strip (l : List UInt8) : greedy l (strip l) = (strip l).length := greedy_sub _ _ (strip_sub l)

/-- foldAtB1's letter by letter test is 'hpf' at the text of ESC. -/
def lowerN (x : UInt8) : Nat := if 65 ≤ x.toNat ∧ x.toNat ≤ 90 then x.toNat + 32 else x.toNat
def foldAt : List UInt8 → List UInt8 → Bool
  | _, [] => true
  | [], _ :: _ => false
  | x :: l, y :: p => decide (lowerN x = y.toNat) && foldAt l p
theorem foldEq_lower (x y : UInt8) (hy : y.toNat < 65 ∨ 90 < y.toNat) : Lib.foldEq x y = decide (lowerN x = y.toNat) := by
  unfold Lib.foldEq lowerN
  split
  · exact decide_eq_decide.2 (by omega)
  · exact decide_eq_decide.2 (by omega)
theorem foldAt_hpf : ∀ (l p : List UInt8), (∀ y ∈ p, y.toNat < 65 ∨ 90 < y.toNat) → foldAt l p = hpf l p
  | l, [], _ => by simp [foldAt, hpf, Lib.equalFold]
  | [], y :: p, _ => by simp [foldAt, hpf]
  | x :: l, y :: p, h => by
    have ih := foldAt_hpf l p (fun z hz => h z (by simp [hz]))
    simp only [foldAt, ih, hpf, List.length_cons, List.take_succ_cons, Lib.equalFold, foldEq_lower x y (h y (by simp))]
    have e : decide (p.length + 1 ≤ l.length + 1) = decide (p.length ≤ l.length) := decide_eq_decide.2 (by omega)
    rw [e]
    cases decide (lowerN x = y.toNat) <;> cases decide (p.length ≤ l.length) <;> simp
theorem hpf_head {l : List UInt8} (h : hpf l escL = true) : ∃ l', l = 92 :: l' := by
  rw [← foldAt_hpf l escL (by decide)] at h
  cases l with
  | nil => cases h
  | cons x l =>
    simp only [escL, foldAt, Bool.and_eq_true, decide_eq_true_eq] at h
    refine ⟨l, ?_⟩
    have h1 := h.1
    unfold lowerN at h1
    have : x.toNat = 92 := by
      split at h1
      · have : (92 : UInt8).toNat = 92 := rfl
        omega
      · exact h1
    rw [show x = 92 from UInt8.toNat_inj.1 this]
theorem escN_pos (c : UInt8) (l : List UInt8) : decide (0 < escN (c :: l)) = (decide (c.toNat = 27) || hpf (c :: l) escL) := by
  by_cases h1 : c.toNat = 27
  · rw [escN_raw h1]; simp [h1]
  · by_cases h2 : hpf (c :: l) escL = true
    · obtain ⟨l', e⟩ := hpf_head h2
      have : c.toNat = 92 := by cases e; rfl
      rw [escN_lit this h2]; simp [h2]
    · have h3 : hpf (c :: l) escL = false := by simpa using h2
      rw [escN_none h1 (by rintro ⟨_, b⟩; exact h2 b)]
      simp [h1, h3]
end Go.Proofs.Qxb6603183aDoor
