/-
  strings.EqualFold over the loaded program, against a text t of bytes that fold within ASCII; s is any string. A jump to the label 'hasUnicode' is followed.
-/
import Derived.Test.Qxb6603183aDoorProg
import Derived.WalkKit
import Derived.WalkSpells
import Derived.WalkLawsBesides
import Derived.Lib.Walk
import Derived.Lib.Strings
import Derived.Laws.Strings3
import Derived.Deep.LoopGhost
import Derived.Lib.Fold
import Derived.ScopeJumps
namespace Go.Proofs.Qxb6603183aDoor
open Go.RowKit Go.Lib

theorem ret_bool {a b : Bool} (h : a = b) : Ending.returned (.bool a) = .returned (.bool b) := by rw [h]
theorem ret_int {k : IntKind} {a b : Int} (h : a = b) : Ending.returned (.int k a) = .returned (.int k b) := by rw [h]

theorem wp_scope_once {P : Program} {a : Act} {w : World} {Q : Exit → Act → World → Prop} {c rest : Code} (l : Nat) (hf : findLabel c l = some rest)
    (first : c.wp P (Exit.jump l (fun a w => rest.wp P (Exit.noGoto Q) a w) Q) a w) : (Code.scope c).wp P Q a w := by
  refine wp_scope_jumps l (fun a w => rest.wp P (Exit.noGoto Q) a w) (fun _ _ => 0) hf first ?_
  intro a w h
  refine wp_mono h ?_
  intro e a w hq
  cases e with
  | goto l' => exact hq.elim
  | normal => exact hq
  | exit id => exact hq
  | ret => exact hq
  | panic ch => exact hq
  | outgrown => exact hq

set_option maxRecDepth 1000000 in
theorem simpleFold (y z : Nat) (w : World) (hy : (y : Int) < 128) (hz : (z : Int) < 128) (hc : w.cell? ⟨1, y, none⟩ = some (.int .u16 (z : Int))) :
    Calls Tryd.prog 42 #[.int .i32 y] w fun e w' => e = .returned (.int .i32 z) ∧ w' = w := by
  go_enter Tryd.func42, Tryd.ntmps42
  go_wp2
  go_ret
  exact ⟨rfl, rfl⟩

set_option maxRecDepth 1000000 in
theorem decodeAscii (t : ByteArray) (w : World) (h0 : 0 < t.size) (ha : ((t[0]'h0).toNat : Int) < 128) (hne : t.toList.isEmpty = false) :
    Calls Tryd.prog 41 #[.string t] w fun e w' => e = .returned (.tuple #[.int .i32 ((t[0]'h0).toNat : Int), .int .i64 1]) ∧ w' = w := by
  go_enter Tryd.func41, Tryd.ntmps41
  go_wp2
  go_ret2
  exact ⟨rfl, rfl⟩

/-- A byte of the two literals: a backslash, a digit, 'u' or 'b'. -/
def lit (b : UInt8) : Bool := b == 92 || b == 117 || b == 48 || b == 49 || b == 55 || b == 98

/-- What the table of single folds holds at those letters and their partners. -/
def Folds (w : World) : Prop :=
  w.cell? ⟨1, 92, none⟩ = some (.int .u16 92) ∧ w.cell? ⟨1, 48, none⟩ = some (.int .u16 48) ∧ w.cell? ⟨1, 49, none⟩ = some (.int .u16 49) ∧ w.cell? ⟨1, 55, none⟩ = some (.int .u16 55) ∧
  w.cell? ⟨1, 117, none⟩ = some (.int .u16 85) ∧ w.cell? ⟨1, 85, none⟩ = some (.int .u16 117) ∧ w.cell? ⟨1, 98, none⟩ = some (.int .u16 66) ∧ w.cell? ⟨1, 66, none⟩ = some (.int .u16 98)

theorem Folds.below {w w' : World} (h : Folds w) (hb : Below w.heap.size w w') : Folds w' := by
  have h1 : 1 < w.heap.size := World.block_lt_of_cell? _ _ h.1
  obtain ⟨a, b, c, d, e, f, g, k⟩ := h
  exact ⟨(hb.cell h1).trans a, (hb.cell h1).trans b, (hb.cell h1).trans c, (hb.cell h1).trans d, (hb.cell h1).trans e, (hb.cell h1).trans f, (hb.cell h1).trans g, (hb.cell h1).trans k⟩

/-- From a letter of the literals the table leads back to it in one step or two, all within ASCII. -/
theorem Folds.orbit {w : World} (h : Folds w) {y : UInt8} (hy : lit y = true) : ∃ z : Nat, z < 128 ∧ w.cell? ⟨1, y.toNat, none⟩ = some (.int .u16 (z : Int)) ∧ w.cell? ⟨1, z, none⟩ = some (.int .u16 (y.toNat : Int)) := by
  obtain ⟨a, b, c, d, e, f, g, k⟩ := h
  simp only [lit, Bool.or_eq_true, beq_iff_eq] at hy
  rcases hy with ((((rfl | rfl) | rfl) | rfl) | rfl) | rfl
  · exact ⟨92, by decide, a, a⟩
  · exact ⟨85, by decide, e, f⟩
  · exact ⟨48, by decide, b, b⟩
  · exact ⟨49, by decide, c, c⟩
  · exact ⟨55, by decide, d, d⟩
  · exact ⟨66, by decide, g, k⟩

theorem toList_full {t : ByteArray} (h : 0 < t.size) : t.toList.isEmpty = false := by
  rw [ByteArray.toList_eq]
  cases hl : t.data.toList with
  | nil => rw [Lib.size_eq, hl] at h; cases h
  | cons a l => rfl

theorem extract_zero (s : ByteArray) (i : Nat) (h : i < s.size) (h0 : 0 < (s.extract i s.size).size) : (s.extract i s.size)[0]'h0 = s[i]'h := by
  simp [ByteArray.getElem_extract]

section
variable {l : Nat} {J : Act → World → Prop} {Q : Exit → Act → World → Prop} {a : Act} {w : World}
theorem jump_normal : Exit.jump l J Q .normal a w = Q .normal a w := rfl
theorem jump_exit (id : Nat) : Exit.jump l J Q (.exit id) a w = Q (.exit id) a w := rfl
theorem jump_ret : Exit.jump l J Q .ret a w = Q .ret a w := rfl
end
attribute [local go_sem] jump_normal jump_exit jump_ret

set_option maxHeartbeats 8000000 in
set_option maxRecDepth 1000000 in
theorem equalFold (s t : ByteArray) (w : World) (hs : s.size < 4294967281) (hF : Folds w)
    (hat : ∀ (j : Nat) b, t.data.toList[j]? = some b → lit b = true) :
    Calls Tryd.prog 38 #[.string s, .string t] w fun e w' => e = .returned (.bool (Lib.equalFold s.data.toList t.data.toList)) ∧ Below w.heap.size w w' := by
  have HT : Aside (∀ (j : Nat) b, t.data.toList[j]? = some b → lit b = true) := hat
  have HF : Aside (Folds w) := hF
  clear hat hF
  obtain ⟨M, hM⟩ : ∃ M : Nat, min (s.size : Int) (t.size : Int) = (M : Int) := ⟨min s.size t.size, by omega⟩
  have hMs : M ≤ s.size := by omega
  have hMt : M ≤ t.size := by omega
  have hMe : M = s.size ∨ M = t.size := by omega
  go_enter Tryd.func38, Tryd.ntmps38
  go_wp2
  refine wp_scope_once 0 rfl ?_
  go_wp2
  go_loopg [5] M (fun g s5 wx => w = wx ∧ ∃ i : Nat, i + g = M ∧ s5 = .int .i64 i ∧ Lib.equalFold (s.data.toList.drop i) (t.data.toList.drop i) = Lib.equalFold s.data.toList t.data.toList)
  case atStart => exact ⟨rfl, 0, by omega, rfl, rfl⟩
  case round =>
    obtain ⟨rfl, i, hig, rfl, hinv⟩ := hrel
    have HI : Aside (Lib.equalFold (s.data.toList.drop i) (t.data.toList.drop i) = Lib.equalFold s.data.toList t.data.toList) := hinv
    clear hinv hM
    cases gk with
    | zero =>
      have hiM : ¬ ((i : Int) < (M : Int)) := by omega
      obtain rfl : i = M := by omega
      have hE : Lib.equalFold s.data.toList t.data.toList = decide (s.size = t.size) := by
        rw [← HI.out, Lib.equalFold_end _ _ (by
          rcases hMe with h | h
          · exact Or.inl (List.drop_eq_nil_of_le (by rw [← Lib.size_eq]; omega))
          · exact Or.inr (List.drop_eq_nil_of_le (by rw [← Lib.size_eq]; omega))), List.length_drop, List.length_drop, ← Lib.size_eq, ← Lib.size_eq]
        exact decide_eq_decide.2 (by omega)
      by_cases hst : s.size = t.size
      · have hb : ((s.size : Int) == (t.size : Int)) = true := beq_iff_eq.2 (by omega)
        go_wp2
        go_ret
        exact ⟨by rw [hE]; simp [hst], Below.refl _ _⟩
      · have hb : ((s.size : Int) == (t.size : Int)) = false := beq_eq_false_iff_ne.2 (by omega)
        go_wp2
        go_ret
        exact ⟨by rw [hE]; simp [hst], Below.refl _ _⟩
    | succ g =>
      have hiM : (i : Int) < (M : Int) := by omega
      have hisz : (i : Int) < (s.size : Int) := by omega
      have hitz : (i : Int) < (t.size : Int) := by omega
      obtain ⟨x, hx⟩ : ∃ x : UInt8, s[i]'(by omega) = x := ⟨_, rfl⟩
      obtain ⟨y, hy⟩ : ∃ y : UInt8, t[i]'(by omega) = y := ⟨_, rfl⟩
      have hxl : s.data.toList[i]? = some x := by rw [← hx]; exact Lib.data_getElem? s i (by omega)
      have hyl : t.data.toList[i]? = some y := by rw [← hy]; exact Lib.data_getElem? t i (by omega)
      have hyL : lit y = true := HT.out i y hyl
      have hy128 : y.toNat < 128 := by
        simp only [lit, Bool.or_eq_true, beq_iff_eq] at hyL
        rcases hyL with ((((rfl | rfl) | rfl) | rfl) | rfl) | rfl <;> decide
      have HL : Aside (lit y = true) := hyL
      have hor : bits .or .u8 (x.toNat : Int) (y.toNat : Int) = ((x.toNat ||| y.toNat : Nat) : Int) := u8_or_nat _ _ (by have := x.toNat_lt; omega) (by omega)
      have Hx : Aside (s.data.toList[i]? = some x ∧ t.data.toList[i]? = some y) := ⟨hxl, hyl⟩
      clear hxl hyl hyL
      by_cases hx128 : x.toNat < 128
      · have hor128 : ¬ ((128 : Int) ≤ ((x.toNat ||| y.toNat : Nat) : Int)) := by have := Nat.or_lt_two_pow (n := 7) hx128 hy128; omega
        go_wp2
        all_goals (try simp only [beq_iff_eq, beq_eq_false_iff_ne, ne_eq] at *)
        all_goals first
          | (go_roundg g
             case measure => omega
             case rel => exact ⟨rfl, i + 1, by omega, by first | rfl | simp, by rw [← HI.out, Lib.drop_at Hx.out.1, Lib.drop_at Hx.out.2, Lib.equalFold_yes _ _ _ _ (decide_eq_true (by omega))]⟩)
          | (go_ret
             refine ⟨?_, Below.refl _ _⟩
             rw [← HI.out, Lib.drop_at Hx.out.1, Lib.drop_at Hx.out.2, Lib.equalFold_no _ _ _ _ (decide_eq_false (by omega))]
             rfl)
      · have hor128 : ((128 : Int) ≤ ((x.toNat ||| y.toNat : Nat) : Int)) := by have := Nat.left_le_or (n := x.toNat) (m := y.toNat); omega
        obtain ⟨z, hz, hc1, hc2⟩ := HF.out.orbit HL.out
        have h1 : 1 < w.heap.size := World.block_lt_of_cell? _ _ hc1
        have hS0 : 0 < (s.extract i s.size).size := by simp; omega
        have hT0 : 0 < (t.extract i t.size).size := by simp; omega
        have hSx := extract_zero s i (by omega) hS0
        have hTy := extract_zero t i (by omega) hT0
        rw [hx] at hSx
        rw [hy] at hTy
        have hTe := toList_full hT0
        have hdh := decode_high (s.extract i s.size) 0 hS0 (by rw [hSx]; omega)
        have hdl := decode_le (s.extract i s.size) 0
        have hnx : ∀ ty, (Instr.next (.pointer (some ⟨w.heap.size, 0, none⟩)) true ty).run Tryd.prog (w.iter (s.extract i s.size) 0) = _ := fun ty => run_next_any w (s.extract i s.size) 0 ty hS0
        generalize Utf8.decode (s.extract i s.size) 0 = D at hdh hdl hnx
        obtain ⟨R, N⟩ := D
        simp only [Nat.zero_add] at hdh hdl hnx
        generalize hSS : s.extract i s.size = S at hS0 hSx hnx
        generalize hTT : t.extract i t.size = T at hT0 hTy hTe
        have hcy : ∀ n, (w.iter S n).cell? ⟨1, y.toNat, none⟩ = some (.int .u16 (z : Int)) := fun n => (World.cell?_alloc_lt _ _ _ h1).trans hc1
        have hcz : ∀ n, (w.iter S n).cell? ⟨1, z, none⟩ = some (.int .u16 (y.toNat : Int)) := fun n => (World.cell?_alloc_lt _ _ _ h1).trans hc2
        have HN : Aside (Lib.equalFold s.data.toList t.data.toList = false) := by
          show _ = _
          rw [← HI.out, Lib.drop_at Hx.out.1, Lib.drop_at Hx.out.2, Lib.equalFold_no _ _ _ _ (decide_eq_false (by omega))]
        have hfin : ∀ n, Below w.heap.size w (w.iter S n) := fun n => (Below.refl _ _).alloc (Nat.le_refl _) _
        clear hc1 hc2 HI HT HF HL Hx
        go_wp2
        go_step3
        refine ⟨rfl, ?_⟩
        go_wp2_with fail
        go_loopg [1] 0 (fun g s1 wx => wx = w.iter S 0 ∧ s1 = .string T)
        case atStart => exact ⟨rfl, rfl⟩
        case round =>
          obtain ⟨rfl, rfl⟩ := hrel
          have hcy' := hcy N
          have hcz' := hcz N
          have hRy : ¬ ((y.toNat : Int) == (R : Int)) = true := by simp; omega
          have hTs : (1 : Int) ≤ (T.size : Int) := by omega
          clear hcy hcz
          go_wp2_with fail
          refine (decodeAscii T _ hT0 (by rw [hTy]; omega) hTe).mono ?_
          rintro e w' ⟨rfl, rfl⟩
          rw [hTy]
          go_wp2_with fail
          refine (simpleFold y.toNat z _ (by omega) (by omega) hcy').mono ?_
          rintro e w' ⟨rfl, rfl⟩
          go_wp2_with fail
          go_loopg [13] 1 (fun g s13 wx => wx = w.iter S N ∧ ∃ r : Nat, s13 = .int .i32 r ∧ (r = y.toNat ∨ (g = 1 ∧ r = z)))
          case atStart => exact ⟨rfl, z, rfl, Or.inr ⟨rfl, rfl⟩⟩
          case round =>
            obtain ⟨rfl, r, rfl, hr⟩ := hrel
            by_cases hry : r = y.toNat
            · subst hry
              go_wp2_with fail
              go_ret
              exact ⟨ret_bool HN.out.symm, hfin N⟩
            · obtain ⟨rfl, rfl⟩ := hr.resolve_left hry
              have hne : ((r : Int) != (y.toNat : Int)) = true := by simp; omega
              have hlt : ((r : Int) < (R : Int)) := by omega
              go_wp2_with fail
              refine (simpleFold r y.toNat _ (by omega) (by omega) hcz').mono ?_
              rintro e w' ⟨rfl, rfl⟩
              go_wp2_with fail
              go_roundg 0
              case measure => omega
              case rel => exact ⟨rfl, y.toNat, rfl, Or.inl rfl⟩
end Go.Proofs.Qxb6603183aDoor
