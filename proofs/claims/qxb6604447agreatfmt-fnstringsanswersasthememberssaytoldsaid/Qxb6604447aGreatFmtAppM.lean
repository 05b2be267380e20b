/-
  The walk of zzAppendMixedList.
-/
import Derived.Test.Qxb6604447aGreatFmtAppL
namespace Go.Proofs.Qxb6604447aGreatFmt
set_option maxRecDepth 1000000
open Go.RowKit Go.Lib

/-- The texts of a list with an intruder at position p. -/
def mixed (p w : Nat) (ls : List ByteArray) : List (List UInt8) := (encs ls).take p ++ intr w :: (encs ls).drop p
theorem mixed_at {p w : Nat} {ls : List ByteArray} (hp : p ≤ ls.length) : (mixed p w ls)[p]? = some (intr w) := by
  have h : ((encs ls).take p).length = p := by rw [List.length_take, encs, List.length_map]; omega
  rw [mixed, List.getElem?_append_right (by omega), h]; simp
theorem mixed_lt {p w k : Nat} {ls : List ByteArray} {s : ByteArray} (hp : p ≤ ls.length) (hk : k < p) (hs : ls[k]? = some s) : (mixed p w ls)[k]? = some (enc s.data.toList) := by
  have h : ((encs ls).take p).length = p := by rw [List.length_take, encs, List.length_map]; omega
  rw [mixed, List.getElem?_append_left (by omega), List.getElem?_take_of_lt hk, encs_get hs]
theorem mixed_gt {p w k : Nat} {ls : List ByteArray} {s : ByteArray} (hp : p ≤ ls.length) (hk : p ≤ k) (hs : ls[k]? = some s) : (mixed p w ls)[k + 1]? = some (enc s.data.toList) := by
  have h : ((encs ls).take p).length = p := by rw [List.length_take, encs, List.length_map]; omega
  rw [mixed, List.getElem?_append_right (by omega), h, show k + 1 - p = (k - p) + 1 by omega, List.getElem?_cons_succ, List.getElem?_drop, show p + (k - p) = k by omega, encs_get hs]
theorem mixed_len {p w : Nat} {ls : List ByteArray} (hp : p ≤ ls.length) : (mixed p w ls).length = ls.length + 1 := by
  simp [mixed, encs]; omega

theorem vi {a b : Int} (h : a = b) : Value.int .i64 a = .int .i64 b := by rw [h]
set_option maxHeartbeats 2000000 in
theorem mixedW (lao : Option Addr) (lc kd : Nat) (hkd : kd < 256) (ls : List ByteArray) (v : Value) (L : List UInt8) (W : World) (hown : Own v L W) (hlc : ∀ vx X, Gr v W vx X → LC lao ls X)
    (hn : ls.length ≤ 1048576) (hs : ∀ s ∈ ls, s.size ≤ 1048576) (hT : L.length + (jn [44] (mixed (kd % (ls.length + 1)) (kd / 8 % 5) ls)).length + 2 ≤ 1099511627776) :
    Calls Tryz.prog 29 #[v, .slice lao ls.length lc, .int .u8 (kd : Int)] W fun e W' => ∃ v', e = .returned v' ∧ Own v' (L ++ 91 :: (jn [44] (mixed (kd % (ls.length + 1)) (kd / 8 % 5) ls) ++ [93])) W' ∧ Gr v W v' W' := by
  have hp : kd % (ls.length + 1) ≤ ls.length := by have := Nat.mod_lt kd (show 0 < ls.length + 1 by omega); omega
  have hw : kd / 8 % 5 < 5 := Nat.mod_lt _ (by omega)
  obtain ⟨n, hnn⟩ : ∃ n, ls.length = n := ⟨_, rfl⟩
  obtain ⟨p, hpp⟩ : ∃ p, kd % (ls.length + 1) = p := ⟨_, rfl⟩
  obtain ⟨w, hww⟩ : ∃ w, kd / 8 % 5 = w := ⟨_, rfl⟩
  rw [hpp] at hp hT ⊢
  rw [hww] at hw hT ⊢
  rw [hnn] at hpp
  have e1 : (kd : Int) % ((n : Int) + 1) = (p : Int) := by rw [← hpp]; simp
  have e2 : (kd : Int) / 8 % 5 = (w : Int) := by rw [← hww]; simp
  have HO : Aside (Own v L W) := hown
  have HLC : Aside (∀ vx X, Gr v W vx X → LC lao ls X) := hlc
  have HS : Aside (∀ s ∈ ls, s.size ≤ 1048576) := hs
  have HT : Aside (L.length + (jn [44] (mixed p w ls)).length + 2 ≤ 1099511627776) := hT
  have hlen : ∀ k, L.length + 1 + (jn [44] ((mixed p w ls).take k)).length + 1 ≤ 1099511627776 := fun k => by have := jn_take [44] (mixed p w ls) k; omega
  have HLEN : Aside (∀ k, L.length + 1 + (jn [44] ((mixed p w ls).take k)).length + 1 ≤ 1099511627776) := hlen
  have HN : Aside (ls.length = n) := hnn
  have HP : Aside (p ≤ ls.length) := hp
  rw [hnn] at hn hp ⊢
  clear hown hlc hs hT hlen hnn hpp hww
  go_enter Tryz.func29, Tryz.ntmps29
  go_wp2_with (at_builtin; refine wpl_app _ rfl _ _ rfl v L rfl (HO.out.alloc _) ⟨W.heap.size, 0, none⟩ 1 1 [91] rfl rfl (cells_new W [91] 5) (by have := HT.out; omega) ?_)
  intro v1 W1 o1 g1 _
  have O1 : Aside (Own v1 (L ++ [91]) W1) := o1
  have G1 : Aside (Gr v W v1 W1) := ((Gr.refl _ W).alloc _).trans g1
  clear o1 g1 e1 e2
  go_wp2_with fail
  go_loopg [0, 9, 10] (n + 1) (fun g s0 s9 s10 wx => ∃ k j : Nat, g + k = n + 1 ∧ s10 = .int .i64 k ∧ s9 = .int .i64 j ∧ ((k ≤ p ∧ j = k) ∨ (p < k ∧ j + 1 = k)) ∧ Own s0 ((L ++ [91]) ++ jn [44] ((mixed p w ls).take k)) wx ∧ Gr v W s0 wx)
  case atStart => exact ⟨0, 0, by omega, rfl, rfl, Or.inl ⟨Nat.zero_le _, rfl⟩, by simpa [jn] using O1.out, G1.out⟩
  case round =>
    obtain ⟨k, j, hk, rfl, rfl, hkj, ho, hg⟩ := hrel
    obtain ⟨T, hT⟩ : ∃ T, (L ++ [91]) ++ jn [44] ((mixed p w ls).take k) = T := ⟨_, rfl⟩
    rw [hT] at ho
    have HTT : Aside ((L ++ [91]) ++ jn [44] ((mixed p w ls).take k) = T) := hT
    have O2 : Aside (Own u0 T wr) := ho
    have G2 : Aside (Gr v W u0 wr) := hg
    have HL2 : Aside (T.length + 1 ≤ 1099511627776) := by
      have := HLEN.out k
      show T.length + 1 ≤ _
      rw [← hT, List.length_append, List.length_append, List.length_cons, List.length_nil]
      omega
    have HKJ : Aside ((k ≤ p ∧ j = k) ∨ (p < k ∧ j + 1 = k)) := hkj
    clear hT hg
    by_cases hlt : k ≤ n
    · have h2 : (k : Int) ≤ (n : Int) := by omega
      by_cases hkp : k = p
      · have h3 : ((k : Int) == (p : Int)) = true := by rw [beq_iff_eq]; omega
        have HE : Aside ((mixed p w ls)[k]? = some (intr w)) := by
          show (mixed p w ls)[k]? = _
          rw [hkp]; exact mixed_at HP.out
        clear hkj
        by_cases h0 : k = 0
        · have h0' : ¬ (0 : Int) < (k : Int) := by omega
          clear ho
          go_wp2_with fail
          refine (intruderW w u0 T wr O2.out (by have := HL2.out; omega) hw).mono ?_
          rintro e W3 ⟨v3, rfl, o3, g3⟩
          have O3 : Aside (Own v3 (T ++ intr w) W3) := o3
          have G3 : Aside (Gr v W v3 W3) := G2.out.trans g3
          clear o3 g3
          go_wp2_with fail
          go_roundg (gk - 1)
          case measure => omega
          case rel =>
            have h8 := HKJ.out
            refine ⟨k + 1, j, by omega, vi (by omega), vi (by omega), by omega, ?_, G3.out⟩
            have h7 := O3.out
            rw [← HTT.out] at h7
            have h9 := HE.out
            subst h0
            rw [jn_first h9]
            simpa [jn] using h7
        · have h0' : (0 : Int) < (k : Int) := by omega
          clear ho
          go_wp2_with (at_builtin; refine wpl_app _ rfl _ _ rfl u0 T rfl (O2.out.alloc _) ⟨wr.heap.size, 0, none⟩ 1 1 [44] rfl rfl (cells_new wr [44] 5) (by have := HL2.out; omega) ?_)
          intro v3 W3 o3 g3 _
          have O3 : Aside (Own v3 (T ++ [44]) W3) := o3
          have G3 : Aside (Gr v W v3 W3) := (G2.out.alloc _).trans g3
          clear o3 g3
          go_wp2_with fail
          refine (intruderW w v3 _ W3 O3.out (by have := HL2.out; rw [List.length_append, List.length_cons, List.length_nil]; omega) hw).mono ?_
          rintro e W4 ⟨v4, rfl, o4, g4⟩
          have O4 : Aside (Own v4 (T ++ [44] ++ intr w) W4) := o4
          have G4 : Aside (Gr v W v4 W4) := G3.out.trans g4
          clear o4 g4
          go_wp2_with fail
          go_roundg (gk - 1)
          case measure => omega
          case rel =>
            have h8 := HKJ.out
            refine ⟨k + 1, j, by omega, vi (by omega), vi (by omega), by omega, ?_, G4.out⟩
            have h7 := O4.out
            rw [← HTT.out] at h7
            rw [jn_step HE.out (by omega)]
            simpa using h7
      · have h3 : ((k : Int) == (p : Int)) = false := by rw [beq_eq_false_iff_ne]; omega
        have hjn : j < n := by omega
        have hjn' : (j : Int) < (n : Int) := by omega
        obtain ⟨s, hs, _⟩ := at_lt (l := ls) (k := j) (by rw [HN.out]; exact hjn)
        have HSS : Aside (ls[j]? = some s) := hs
        have hsz : s.size ≤ 1048576 := HS.out s (List.mem_of_getElem? hs)
        have HE : Aside ((mixed p w ls)[k]? = some (enc s.data.toList)) := by
          show (mixed p w ls)[k]? = _
          rcases hkj with ⟨h5, h6⟩ | ⟨h5, h6⟩
          · subst h6; exact mixed_lt HP.out (by omega) hs
          · rw [← h6]; exact mixed_gt HP.out (by omega) hs
        clear hkj
        by_cases h0 : k = 0
        · have h0' : ¬ (0 : Int) < (k : Int) := by omega
          obtain ⟨b, o, rfl, x0⟩ := HLC.out _ _ G2.out j s hs
          clear ho hs
          go_wp2_with fail
          refine (appendStringW s u0 T wr O2.out (by omega) (by have := HL2.out; omega)).mono ?_
          rintro e W3 ⟨v3, rfl, o3, g3⟩
          have O3 : Aside (Own v3 (T ++ enc s.data.toList) W3) := o3
          have G3 : Aside (Gr v W v3 W3) := G2.out.trans g3
          clear o3 g3
          go_wp2_with fail
          go_roundg (gk - 1)
          case measure => omega
          case rel =>
            have h8 := HKJ.out
            refine ⟨k + 1, j + 1, by omega, vi (by omega), vi (by omega), by omega, ?_, G3.out⟩
            have h7 := O3.out
            rw [← HTT.out] at h7
            have h9 := HE.out
            subst h0
            rw [jn_first h9]
            simpa [jn] using h7
        · have h0' : (0 : Int) < (k : Int) := by omega
          clear ho hs
          go_wp2_with (at_builtin; refine wpl_app _ rfl _ _ rfl u0 T rfl (O2.out.alloc _) ⟨wr.heap.size, 0, none⟩ 1 1 [44] rfl rfl (cells_new wr [44] 5) (by have := HL2.out; omega) ?_)
          intro v3 W3 o3 g3 _
          have O3 : Aside (Own v3 (T ++ [44]) W3) := o3
          have G3 : Aside (Gr v W v3 W3) := (G2.out.alloc _).trans g3
          obtain ⟨b, o, rfl, x0⟩ := HLC.out _ _ G3.out j s HSS.out
          clear o3 g3
          go_wp2_with fail
          refine (appendStringW s v3 _ W3 O3.out (by omega) (by have := HL2.out; rw [List.length_append, List.length_cons, List.length_nil]; omega)).mono ?_
          rintro e W4 ⟨v4, rfl, o4, g4⟩
          have O4 : Aside (Own v4 (T ++ [44] ++ enc s.data.toList) W4) := o4
          have G4 : Aside (Gr v W v4 W4) := G3.out.trans g4
          clear o4 g4
          go_wp2_with fail
          go_roundg (gk - 1)
          case measure => omega
          case rel =>
            have h8 := HKJ.out
            refine ⟨k + 1, j + 1, by omega, vi (by omega), vi (by omega), by omega, ?_, G4.out⟩
            have h7 := O4.out
            rw [← HTT.out] at h7
            rw [jn_step HE.out (by omega)]
            simpa using h7
    · have h2 : decide ((k : Int) ≤ (n : Int)) = false := by simp; omega
      have HJ : Aside (jn [44] ((mixed p w ls).take k) = jn [44] (mixed p w ls)) := by
        show jn [44] ((mixed p w ls).take k) = jn [44] (mixed p w ls)
        rw [List.take_of_length_le (by rw [mixed_len HP.out, HN.out]; omega)]
      clear ho hkj
      go_wp2_with (at_builtin; refine wpl_app _ rfl _ _ rfl u0 T rfl (O2.out.alloc _) ⟨wr.heap.size, 0, none⟩ 1 1 [93] rfl rfl (cells_new wr [93] 5) (by have := HL2.out; omega) ?_)
      intro v3 W3 o3 g3 _
      have O3 : Aside (Own v3 (T ++ [93]) W3) := o3
      have G3 : Aside (Gr v W v3 W3) := (G2.out.alloc _).trans g3
      clear o3 g3
      go_wp2_with fail
      go_ret
      refine ⟨_, rfl, ?_, G3.out⟩
      have h7 := O3.out
      rw [← HTT.out, HJ.out] at h7
      simpa using h7
end Go.Proofs.Qxb6604447aGreatFmt
