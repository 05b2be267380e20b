/-
  The walks of the small functions of term.go: HasPrefix, hasPrefixFold, controlAt, belAt, escAt.
-/
import Derived.Test.Qxb6603183aDoorFold
import Derived.Test.Qxb6603183aDoorPlain
namespace Go.Proofs.Qxb6603183aDoor
set_option maxRecDepth 1000000
open Go.RowKit Go.Lib

set_option maxHeartbeats 1000000 in
theorem liteHasPrefix (s p : ByteArray) (w : World) :
    Calls Tryd.prog 36 #[.string s, .string p] w fun e w' => e = .returned (.bool (Lib.hasPrefix s.data.toList p.data.toList)) ∧ w' = w := by
  rw [← Lib.hasPrefix_of_take, ← Lib.size_eq, ← Lib.size_eq]
  go_enter Tryd.func36, Tryd.ntmps36
  go_wp2
  · rename_i h
    go_ret
    refine ⟨?_, rfl⟩
    show Ending.returned (Value.bool ((s.extract 0 p.size).toList == p.toList)) = _
    rw [Lib.extract_toList, Lib.toList_data]
    simp [h]
  · rename_i h
    go_ret
    refine ⟨?_, rfl⟩
    show Ending.returned (Value.bool false) = _
    simp [h]

theorem hasPrefix (s p : ByteArray) (w : World) :
    Calls Tryd.prog 29 #[.string s, .string p] w fun e w' => e = .returned (.bool (Lib.hasPrefix s.data.toList p.data.toList)) ∧ w' = w := by
  go_enter Tryd.func29, Tryd.ntmps29
  go_wp2_with fail
  refine (liteHasPrefix s p w).mono ?_
  rintro e w' ⟨rfl, rfl⟩
  go_wp2
  go_ret
  exact ⟨rfl, rfl⟩

/-- The text is made of the literals' letters. -/
def Lits (p : ByteArray) : Prop := ∀ (j : Nat) b, p.data.toList[j]? = some b → lit b = true

theorem hasPrefixFold (s p : ByteArray) (w : World) (hs : s.size < 4294967281) (hF : Folds w) (hp : Lits p) :
    Calls Tryd.prog 32 #[.string s, .string p] w fun e w' => e = .returned (.bool (hpf s.data.toList p.data.toList)) ∧ Below w.heap.size w w' := by
  have HF : Aside (Folds w) := hF
  have HP : Aside (Lits p) := hp
  clear hF hp
  by_cases h : p.size ≤ s.size
  · have HD : Hid (hpf s.data.toList p.data.toList = Lib.equalFold (s.data.toList.take p.size) p.data.toList) := by
      show _ = _
      rw [hpf, ← Lib.size_eq, ← Lib.size_eq]
      simp [h]
    have h0 : (s.extract 0 p.size).size < 4294967281 := by simp; omega
    have h' : (p.size : Int) ≤ (s.size : Int) := by omega
    go_enter Tryd.func32, Tryd.ntmps32
    go_wp2_with fail
    refine (equalFold _ p w h0 HF.out HP.out).mono ?_
    rintro e w' ⟨rfl, hb⟩
    go_wp2
    go_ret
    exact ⟨ret_bool HD.out.symm, hb⟩
  · have HD : Hid (hpf s.data.toList p.data.toList = false) := by
      show _ = _
      rw [hpf, ← Lib.size_eq, ← Lib.size_eq]
      simp [h]
    have h' : ¬ (p.size : Int) ≤ (s.size : Int) := by omega
    go_enter Tryd.func32, Tryd.ntmps32
    go_wp2
    go_ret
    exact ⟨ret_bool HD.out.symm, Below.refl _ _⟩

theorem controlAt (s p : ByteArray) (i : Nat) (c : Int) (w : World) (hs : s.size < 4294967281) (hF : Folds w) (hp : Lits p) (hi : i < s.size) :
    Calls Tryd.prog 35 #[.string s, .int .i64 i, .int .u8 c, .string p] w fun e w' => e = .returned (.int .i64 (ctl c p.data.toList (s.data.toList.drop i))) ∧ Below w.heap.size w w' := by
  have HF : Aside (Folds w) := hF
  have HP : Aside (Lits p) := hp
  clear hF hp
  obtain ⟨x, hx⟩ : ∃ x : UInt8, s[i]'(by omega) = x := ⟨_, rfl⟩
  have hxl : s.data.toList[i]? = some x := by rw [← hx]; exact Lib.data_getElem? s i (by omega)
  have HC : Hid (ctl c p.data.toList (s.data.toList.drop i) = if (x.toNat : Int) = c then 1 else if x.toNat = 92 ∧ hpf (s.data.toList.drop i) p.data.toList = true then p.data.toList.length else 0) := by
    show _ = _
    rw [Lib.drop_at hxl]; rfl
  have h0 : (s.extract i s.size).size < 4294967281 := by simp; omega
  have hii : (i : Int) < (s.size : Int) := by omega
  clear hxl
  by_cases h1 : (x.toNat : Int) = c
  · have h1' : ((x.toNat : Int) == c) = true := by simpa using h1
    have H1 : Hid ((x.toNat : Int) = c) := h1
    clear h1
    go_enter Tryd.func35, Tryd.ntmps35
    go_wp2
    go_ret
    exact ⟨ret_int (by rw [HC.out, if_pos H1.out]; rfl), Below.refl _ _⟩
  · have h1' : ((x.toNat : Int) == c) = false := by simpa using h1
    by_cases h2 : x.toNat = 92
    · have h2' : ((x.toNat : Int) == 92) = true := by simp; omega
      have H2 : Hid (x.toNat = 92) := h2
      have H1 : Hid (¬ (x.toNat : Int) = c) := h1
      clear h2 h1
      go_enter Tryd.func35, Tryd.ntmps35
      go_wp2_with fail
      refine (hasPrefixFold _ p w h0 HF.out HP.out).mono ?_
      rintro e w' ⟨rfl, hb⟩
      rw [Lib.extract_to_end]
      cases hh : hpf (s.data.toList.drop i) p.data.toList with
      | true =>
        go_wp2
        go_ret
        exact ⟨ret_int (by rw [HC.out, if_neg H1.out, if_pos ⟨H2.out, hh⟩, Lib.size_eq]), hb⟩
      | false =>
        go_wp2
        go_ret
        exact ⟨ret_int (by rw [HC.out, if_neg H1.out, if_neg (by rw [hh]; simp)]; rfl), hb⟩
    · have h2' : ((x.toNat : Int) == 92) = false := by simp; omega
      have H2 : Hid (¬ x.toNat = 92) := h2
      have H1 : Hid (¬ (x.toNat : Int) = c) := h1
      clear h2 h1
      go_enter Tryd.func35, Tryd.ntmps35
      go_wp2
      go_ret
      exact ⟨ret_int (by rw [HC.out, if_neg H1.out, if_neg (by intro h; exact H2.out h.1)]; rfl), Below.refl _ _⟩

theorem lits_esc : Lits { data := #[92, 117, 48, 48, 49, 98] } := by
  intro j b h
  match j, h with
  | 0, h => cases h; rfl
  | 1, h => cases h; rfl
  | 2, h => cases h; rfl
  | 3, h => cases h; rfl
  | 4, h => cases h; rfl
  | 5, h => cases h; rfl
  | j + 6, h => simp at h
theorem lits_bel : Lits { data := #[92, 117, 48, 48, 48, 55] } := by
  intro j b h
  match j, h with
  | 0, h => cases h; rfl
  | 1, h => cases h; rfl
  | 2, h => cases h; rfl
  | 3, h => cases h; rfl
  | 4, h => cases h; rfl
  | 5, h => cases h; rfl
  | j + 6, h => simp at h

theorem escAt (s : ByteArray) (i : Nat) (w : World) (hs : s.size < 4294967281) (hF : Folds w) (hi : i < s.size) :
    Calls Tryd.prog 26 #[.string s, .int .i64 i] w fun e w' => e = .returned (.int .i64 (escN (s.data.toList.drop i))) ∧ Below w.heap.size w w' := by
  have HF : Aside (Folds w) := hF
  clear hF
  go_enter Tryd.func26, Tryd.ntmps26
  go_wp2_with fail
  refine (controlAt s _ i 27 w hs HF.out lits_esc hi).mono ?_
  rintro e w' ⟨rfl, hb⟩
  go_wp2
  go_ret
  exact ⟨rfl, hb⟩
theorem belAt (s : ByteArray) (i : Nat) (w : World) (hs : s.size < 4294967281) (hF : Folds w) (hi : i < s.size) :
    Calls Tryd.prog 30 #[.string s, .int .i64 i] w fun e w' => e = .returned (.int .i64 (belN (s.data.toList.drop i))) ∧ Below w.heap.size w w' := by
  have HF : Aside (Folds w) := hF
  clear hF
  go_enter Tryd.func30, Tryd.ntmps30
  go_wp2_with fail
  refine (controlAt s _ i 7 w hs HF.out lits_bel hi).mono ?_
  rintro e w' ⟨rfl, hb⟩
  go_wp2
  go_ret
  exact ⟨rfl, hb⟩
end Go.Proofs.Qxb6603183aDoor
