/-
  The members as they lie in memory: a slice of structs; the walks of zzFind, zzHasDuplicateName, zzAllWrittenValid.
-/
import Derived.Test.Qxb6604447aGreatFmtApp
import Derived.Test.Qxb6604447aGreatFmtValid
import Derived.Deep.QuietTactic
import Derived.BigQuiet
namespace Go.Proofs.Qxb6604447aGreatFmt
set_option maxRecDepth 1000000
open Go.RowKit Go.Lib

/-- A member. -/
structure Mem where
  name : ByteArray
  kind : Nat
  text : ByteArray
  list : List ByteArray
/-- The value v is a slice of the strings ls. -/
def LV (v : Value) (ls : List ByteArray) (W : World) : Prop :=
  ∃ ao c, v = .slice ao ls.length c ∧ (ao = none → c = 0 ∧ ls = []) ∧ ∀ (j : Nat) s, ls[j]? = some s → ∃ b o, ao = some ⟨b, o, none⟩ ∧ W.cell? ⟨b, o + j, none⟩ = some (.string s)
/-- The four cells from ⟨b, o⟩ on hold the member m. -/
structure MC (b o : Nat) (m : Mem) (W : World) : Prop where
  c0 : W.cell? ⟨b, o, none⟩ = some (.string m.name)
  c1 : W.cell? ⟨b, o + 1, none⟩ = some (.int .u8 (m.kind : Int))
  c2 : W.cell? ⟨b, o + 2, none⟩ = some (.string m.text)
  c3 : ∃ lv, W.cell? ⟨b, o + 3, none⟩ = some lv ∧ LV lv m.list W
  hk : m.kind < 256
/-- The value v is a slice of the members ms. -/
def MV (v : Value) (ms : List Mem) (W : World) : Prop :=
  ∃ ao c, v = .slice ao ms.length c ∧ (ao = none → c = 0 ∧ ms = []) ∧ ∀ (j : Nat) m, ms[j]? = some m → ∃ b o, ao = some ⟨b, o, none⟩ ∧ MC b (o + j * 4) m W

theorem LV.below {v : Value} {ls : List ByteArray} {W W' : World} (h : LV v ls W) (hb : Below W.heap.size W W') : LV v ls W' := by
  obtain ⟨ao, c, h1, h2, h3⟩ := h
  refine ⟨ao, c, h1, h2, fun j s hj => ?_⟩
  obtain ⟨b, o, h4, h5⟩ := h3 j s hj
  exact ⟨b, o, h4, (hb.cell (World.block_lt_of_cell? W _ h5)).trans h5⟩
theorem MC.below {b o : Nat} {m : Mem} {W W' : World} (h : MC b o m W) (hb : Below W.heap.size W W') : MC b o m W' := by
  obtain ⟨lv, h3, h4⟩ := h.c3
  have hl : b < W.heap.size := World.block_lt_of_cell? W _ h.c0
  exact ⟨(hb.cell hl).trans h.c0, (hb.cell hl).trans h.c1, (hb.cell hl).trans h.c2, ⟨lv, (hb.cell hl).trans h3, h4.below hb⟩, h.hk⟩
theorem MV.below {v : Value} {ms : List Mem} {W W' : World} (h : MV v ms W) (hb : Below W.heap.size W W') : MV v ms W' := by
  obtain ⟨ao, c, h1, h2, h3⟩ := h
  refine ⟨ao, c, h1, h2, fun j m hj => ?_⟩
  obtain ⟨b, o, h4, h5⟩ := h3 j m hj
  exact ⟨b, o, h4, h5.below hb⟩
theorem bdrew {B : Nat} {W W' : World} (h : Below B W W') (n : Nat) : Below B W (W'.drewN n) := ⟨h.os, h.tape, h.output, h.size, h.block⟩

theorem ba_tl (a b : ByteArray) : (a.toList == b.toList) = decide (a = b) := by
  rw [ByteArray.toList_eq, ByteArray.toList_eq]
  by_cases e : a = b
  · rw [e]; simp
  · rw [decide_eq_false e]
    cases hh : (a.data.toList == b.data.toList)
    · rfl
    · exact absurd (Go.WideShapes.bytes_inj (by simpa using hh)) e

theorem at_lt {α : Type} {l : List α} {k : Nat} (h : k < l.length) : ∃ m, l[k]? = some m ∧ l.drop k = m :: l.drop (k + 1) := ⟨l[k], List.getElem?_eq_getElem h, List.drop_eq_getElem_cons h⟩

set_option maxHeartbeats 2000000 in
theorem findW (v : Value) (ms : List Mem) (name : ByteArray) (W : World) (hlen : ms.length ≤ 1048576) (hv : MV v ms W) :
    Calls Tryz.prog 14 #[v, .string name] W fun e W' => W' = W ∧ ((ms.find? (fun m => decide (m.name = name)) = none ∧ e = .returned (.int .i64 (-1))) ∨ ∃ (k : Nat) (m : Mem), ms.find? (fun m => decide (m.name = name)) = some m ∧ ms[k]? = some m ∧ e = .returned (.int .i64 (k : Int))) := by
  obtain ⟨ao, c, rfl, _, hel⟩ := hv
  have HEL : Aside (∀ (j : Nat) m, ms[j]? = some m → ∃ b o, ao = some ⟨b, o, none⟩ ∧ MC b (o + j * 4) m W) := hel
  obtain ⟨n, hn⟩ : ∃ n, ms.length = n := ⟨_, rfl⟩
  rw [hn] at hlen ⊢
  have HN : Aside (ms.length = n) := hn
  clear hel hn
  go_enter Tryz.func14, Tryz.ntmps14
  go_wp2_with fail
  go_loopg [5] n (fun g s5 wx => W = wx ∧ ∃ k : Nat, g + k = n ∧ s5 = .int .i64 k ∧ (ms.drop k).find? (fun m => decide (m.name = name)) = ms.find? (fun m => decide (m.name = name)))
  case atStart => exact ⟨rfl, 0, by omega, rfl, rfl⟩
  case round =>
    obtain ⟨rfl, k, hk, rfl, hf⟩ := hrel
    have HF : Aside ((ms.drop k).find? (fun m => decide (m.name = name)) = ms.find? (fun m => decide (m.name = name))) := hf
    clear hf
    by_cases hlt : k < n
    · have h2 : (k : Int) < (n : Int) := by omega
      obtain ⟨m, hm, hdr⟩ := at_lt (l := ms) (k := k) (by rw [HN.out]; exact hlt)
      have HM : Aside (ms[k]? = some m) := hm
      have HDR : Aside (ms.drop k = m :: ms.drop (k + 1)) := hdr
      obtain ⟨b, o, rfl, mc⟩ := HEL.out k m hm
      have c0 := mc.c0
      have HB := ba_tl m.name name
      obtain ⟨bb, hbb⟩ : ∃ bb, decide (m.name = name) = bb := ⟨_, rfl⟩
      rw [hbb] at HB
      have HBB : Aside (decide (m.name = name) = bb) := hbb
      clear mc hm hdr hbb
      cases bb
      · go_wp2_with fail
        go_roundg (gk - 1)
        case measure => omega
        case rel =>
          refine ⟨rfl, k + 1, by omega, rfl, ?_⟩
          have := HF.out
          rw [HDR.out, List.find?_cons, HBB.out] at this
          exact this
      · go_wp2_with fail
        go_ret
        refine ⟨rfl, Or.inr ⟨k, m, ?_, HM.out, rfl⟩⟩
        have := HF.out
        rw [HDR.out, List.find?_cons, HBB.out] at this
        exact this.symm
    · have h2 : decide ((k : Int) < (n : Int)) = false := by simp; omega
      have hkn : k = n := by omega
      go_wp2_with fail
      go_ret
      refine ⟨rfl, Or.inl ⟨?_, rfl⟩⟩
      have := HF.out
      rw [List.drop_eq_nil_of_le (by rw [HN.out]; omega)] at this
      exact this.symm

/-- Whether two members share a name. -/
def hasDup : List Mem → Bool
  | [] => false
  | m :: ms => ms.any (fun x => decide (m.name = x.name)) || hasDup ms

set_option maxHeartbeats 2000000 in
theorem dupW (v : Value) (ms : List Mem) (W : World) (hlen : ms.length ≤ 1048576) (hv : MV v ms W) :
    Calls Tryz.prog 11 #[v] W fun e W' => e = .returned (.bool (hasDup ms)) ∧ Below W.heap.size W W' := by
  obtain ⟨ao, c, rfl, _, hel⟩ := hv
  have HEL : Aside (∀ (j : Nat) m, ms[j]? = some m → ∃ b o, ao = some ⟨b, o, none⟩ ∧ MC b (o + j * 4) m W) := hel
  obtain ⟨n, hn⟩ : ∃ n, ms.length = n := ⟨_, rfl⟩
  rw [hn] at hlen ⊢
  have HN : Aside (ms.length = n) := hn
  obtain ⟨D, hD⟩ : ∃ D, hasDup ms = D := ⟨_, rfl⟩
  rw [hD]
  have HD : Aside (hasDup ms = D) := hD
  clear hel hn hD
  go_enter Tryz.func11, Tryz.ntmps11
  go_wp2_with fail
  go_loopg [3] n (fun g s3 wx => Below W.heap.size W wx ∧ ∃ k : Nat, g + k = n ∧ s3 = .int .i64 k ∧ hasDup (ms.drop k) = D)
  case atStart => exact ⟨Below.refl _ _, 0, by omega, rfl, HD.out⟩
  case round =>
    obtain ⟨hb, k, hk, rfl, hf⟩ := hrel
    have HF : Aside (hasDup (ms.drop k) = D) := hf
    have HB : Aside (Below W.heap.size W wr) := hb
    clear hf hb
    by_cases hlt : k < n
    · have h2 : (k : Int) < (n : Int) := by omega
      obtain ⟨m, hm, hdr⟩ := at_lt (l := ms) (k := k) (by rw [HN.out]; exact hlt)
      have HM : Aside (ms[k]? = some m) := hm
      have HDR : Aside (ms.drop k = m :: ms.drop (k + 1)) := hdr
      obtain ⟨b, o, rfl, mc⟩ := HEL.out k m hm
      have HMC : Aside (MC b (o + k * 4) m W) := mc
      have hbl : b < W.heap.size := World.block_lt_of_cell? W _ mc.c0
      clear mc hm hdr
      go_wp2_with fail
      go_loopg [4] (n - (k + 1)) (fun g s4 wx => Below W.heap.size W wx ∧ ∃ j : Nat, g + j = n ∧ k + 1 ≤ j ∧ s4 = .int .i64 j ∧ (ms.drop j).any (fun x => decide (m.name = x.name)) = (ms.drop (k + 1)).any (fun x => decide (m.name = x.name)))
      case atStart => exact ⟨HB.out, k + 1, by omega, Nat.le_refl _, rfl, rfl⟩
      case round =>
        obtain ⟨hb, j, hj, hkj, rfl, ha⟩ := hrel
        have HA : Aside ((ms.drop j).any (fun x => decide (m.name = x.name)) = (ms.drop (k + 1)).any (fun x => decide (m.name = x.name))) := ha
        have HB2 : Aside (Below W.heap.size W wr) := hb
        have x0 : wr.cell? ⟨b, o + k * 4, none⟩ = some (.string m.name) := (hb.cell hbl).trans HMC.out.c0
        by_cases hjt : j < n
        · have h3 : (j : Int) < (n : Int) := by omega
          obtain ⟨m2, hm2, hdr2⟩ := at_lt (l := ms) (k := j) (by rw [HN.out]; exact hjt)
          have HDR2 : Aside (ms.drop j = m2 :: ms.drop (j + 1)) := hdr2
          obtain ⟨b2, o2, e2, mc2⟩ := HEL.out j m2 hm2
          cases e2
          have x2 : wr.cell? ⟨b, o + j * 4, none⟩ = some (.string m2.name) := (hb.cell hbl).trans mc2.c0
          have HBE := ba_tl m.name m2.name
          obtain ⟨bb, hbb⟩ : ∃ bb, decide (m.name = m2.name) = bb := ⟨_, rfl⟩
          rw [hbb] at HBE
          have HBB : Aside (decide (m.name = m2.name) = bb) := hbb
          clear mc2 hm2 hdr2 hbb hb ha
          cases bb
          · go_wp2_with fail
            go_quiet (fail)
            go_wp2_with fail
            go_roundg (gk - 1)
            case measure => omega
            case rel =>
              refine ⟨bdrew HB2.out _, j + 1, by omega, by omega, rfl, ?_⟩
              have := HA.out
              rw [HDR2.out, List.any_cons, HBB.out, Bool.false_or] at this
              exact this
          · go_wp2_with fail
            go_quiet (fail)
            go_wp2_with fail
            go_ret
            refine ⟨?_, bdrew HB2.out _⟩
            have h5 := HA.out
            rw [HDR2.out, List.any_cons, HBB.out, Bool.true_or] at h5
            have h6 := HF.out
            rw [HDR.out, hasDup, ← h5, Bool.true_or] at h6
            rw [← h6]; rfl
        · have h3 : decide ((j : Int) < (n : Int)) = false := by simp; omega
          clear hb ha
          go_wp2_with fail
          go_roundg (n - (k + 1))
          case measure => omega
          case rel =>
            refine ⟨HB2.out, k + 1, by omega, rfl, ?_⟩
            have h5 := HA.out
            rw [show ms.drop j = [] from List.drop_eq_nil_of_le (by rw [HN.out]; omega), List.any_nil] at h5
            have h6 := HF.out
            rw [HDR.out, hasDup, ← h5, Bool.false_or] at h6
            exact h6
    · have h2 : decide ((k : Int) < (n : Int)) = false := by simp; omega
      go_wp2_with fail
      go_ret
      have := HF.out
      rw [List.drop_eq_nil_of_le (by rw [HN.out]; omega)] at this
      exact ⟨by rw [← this]; rfl, HB.out⟩

/-- Whether all that is written of a member is UTF-8. -/
def Mem.okTxt (m : Mem) : Bool := valid m.name.data.toList && ((!(m.kind == 0) || valid m.text.data.toList) && (!(m.kind == 4 || decide (5 < m.kind)) || m.list.all fun s => valid s.data.toList))
/-- The sizes of a member are modest. -/
def Mem.small (m : Mem) : Prop := m.name.size ≤ 1048576 ∧ m.text.size ≤ 1048576 ∧ m.list.length ≤ 1048576 ∧ ∀ s ∈ m.list, s.size ≤ 1048576

set_option maxHeartbeats 2000000 in
theorem allW (v : Value) (ms : List Mem) (W : World) (hlen : ms.length ≤ 1048576) (hsm : ∀ m ∈ ms, m.small) (hv : MV v ms W) :
    Calls Tryz.prog 12 #[v] W fun e W' => e = .returned (.bool (ms.all Mem.okTxt)) ∧ W' = W := by
  obtain ⟨ao, c, rfl, _, hel⟩ := hv
  have HEL : Aside (∀ (j : Nat) m, ms[j]? = some m → ∃ b o, ao = some ⟨b, o, none⟩ ∧ MC b (o + j * 4) m W) := hel
  have HSM : Aside (∀ m ∈ ms, m.small) := hsm
  obtain ⟨n, hn⟩ : ∃ n, ms.length = n := ⟨_, rfl⟩
  rw [hn] at hlen ⊢
  have HN : Aside (ms.length = n) := hn
  obtain ⟨D, hD⟩ : ∃ D, ms.all Mem.okTxt = D := ⟨_, rfl⟩
  rw [hD]
  have HD : Aside (ms.all Mem.okTxt = D) := hD
  clear hel hn hD hsm
  go_enter Tryz.func12, Tryz.ntmps12
  go_wp2_with fail
  go_loopg [3] n (fun g s3 wx => W = wx ∧ ∃ k : Nat, g + k = n ∧ s3 = .int .i64 k ∧ (ms.drop k).all Mem.okTxt = D)
  case atStart => exact ⟨rfl, 0, by omega, rfl, HD.out⟩
  case round =>
    obtain ⟨rfl, k, hk, rfl, hf⟩ := hrel
    have HF : Aside ((ms.drop k).all Mem.okTxt = D) := hf
    clear hf
    by_cases hlt : k < n
    · have h2 : (k : Int) < (n : Int) := by omega
      obtain ⟨m, hm, hdr⟩ := at_lt (l := ms) (k := k) (by rw [HN.out]; exact hlt)
      have HDR : Aside (ms.drop k = m :: ms.drop (k + 1)) := hdr
      obtain ⟨b, o, rfl, mc⟩ := HEL.out k m hm
      obtain ⟨z1, z2, z3, z4⟩ := HSM.out m (List.mem_of_getElem? hm)
      have Z4 : Aside (∀ s ∈ m.list, s.size ≤ 1048576) := z4
      have HK : Aside (m.okTxt = (valid m.name.data.toList && ((!(m.kind == 0) || valid m.text.data.toList) && (!(m.kind == 4 || decide (5 < m.kind)) || m.list.all fun s => valid s.data.toList)))) := rfl
      obtain ⟨nm, kd, tx, ls⟩ := m
      have c0 := mc.c0
      have c1 := mc.c1
      have c2 := mc.c2
      obtain ⟨lv, c3, lao, lc, rfl, _, lel⟩ := mc.c3
      have LEL : Aside (∀ (j : Nat) s, ls[j]? = some s → ∃ b o, lao = some ⟨b, o, none⟩ ∧ W.cell? ⟨b, o + j, none⟩ = some (.string s)) := lel
      obtain ⟨ln, hln⟩ : ∃ ln, ls.length = ln := ⟨_, rfl⟩
      simp only at c0 c1 c2 c3 z1 z2 z3
      rw [hln] at c3 z3
      have HLN : Aside (ls.length = ln) := hln
      clear mc hm hdr lel hln z4
      simp only at HK
      obtain ⟨B1, hB1⟩ : ∃ B1, valid nm.data.toList = B1 := ⟨_, rfl⟩
      have HB1 : Aside (valid nm.data.toList = B1) := hB1
      clear hB1
      have fin : Aside (∀ bb, Mem.okTxt ⟨nm, kd, tx, ls⟩ = bb → (bb && (ms.drop (k + 1)).all Mem.okTxt) = D) := by
        intro bb hbb
        have := HF.out
        rw [HDR.out, List.all_cons, hbb] at this
        exact this
      go_wp2_with fail
      refine (validW nm W (by omega)).mono ?_
      rw [HB1.out]
      rintro e w ⟨rfl, hw⟩
      rw [hw]
      clear hw
      cases B1
      · go_wp2_with fail
        go_ret
        have := fin.out false (by rw [HK.out, HB1.out]; rfl)
        exact ⟨by rw [← this]; rfl, rfl⟩
      · by_cases hk0 : kd = 0
        · subst hk0
          obtain ⟨B2, hB2⟩ : ∃ B2, valid tx.data.toList = B2 := ⟨_, rfl⟩
          have HB2 : Aside (valid tx.data.toList = B2) := hB2
          clear hB2
          go_wp2_with fail
          refine (validW tx W (by omega)).mono ?_
          rw [HB2.out]
          rintro e w ⟨rfl, hw⟩
          rw [hw]
          clear hw
          cases B2
          · go_wp2_with fail
            go_ret
            have := fin.out false (by rw [HK.out, HB1.out, HB2.out]; rfl)
            exact ⟨by rw [← this]; rfl, rfl⟩
          · go_wp2_with fail
            go_roundg (gk - 1)
            case measure => omega
            case rel =>
              have := fin.out true (by rw [HK.out, HB1.out, HB2.out]; rfl)
              exact ⟨rfl, k + 1, by omega, rfl, by rw [← this]; rfl⟩
        · have hk0' : ((kd : Int) == 0) = false := by rw [beq_eq_false_iff_ne]; omega
          have HK0 : Aside ((kd == 0) = false) := by show (kd == 0) = false; rw [beq_eq_false_iff_ne]; exact hk0
          by_cases hk4 : kd = 4 ∨ 5 < kd
          · have HK4 : Aside ((kd == 4 || decide (5 < kd)) = true) := by
              show (kd == 4 || decide (5 < kd)) = true
              rcases hk4 with rfl | h5
              · rfl
              · rw [decide_eq_true h5, Bool.or_true]
            have fin2 : Aside (∀ bb, (ls.all fun s => valid s.data.toList) = bb → (bb && (ms.drop (k + 1)).all Mem.okTxt) = D) := fun bb hbb => fin.out bb (by rw [HK.out, HB1.out, HK0.out, HK4.out, hbb]; cases bb <;> rfl)
            clear HK0 HK HF HDR fin HK4
            have hc4 : ((kd : Int) == 4) = true ∨ (((kd : Int) == 4) = false ∧ (5 : Int) < (kd : Int)) := by
              rcases hk4 with rfl | h5
              · exact Or.inl rfl
              · exact Or.inr ⟨by rw [beq_eq_false_iff_ne]; omega, by omega⟩
            clear hk4 hk0
            rcases hc4 with h4 | ⟨h4, h5⟩
            all_goals
              go_wp2_with fail
              go_loopg [4] ln (fun g s4 wx => W = wx ∧ ∃ j : Nat, g + j = ln ∧ s4 = .int .i64 j ∧ ((ls.drop j).all fun s => valid s.data.toList) = ls.all fun s => valid s.data.toList)
              case atStart => exact ⟨rfl, 0, by omega, rfl, rfl⟩
              case round =>
                obtain ⟨rfl, j, hj, rfl, ha⟩ := hrel
                have HA : Aside (((ls.drop j).all fun s => valid s.data.toList) = ls.all fun s => valid s.data.toList) := ha
                clear ha
                by_cases hjt : j < ln
                · have h3 : (j : Int) < (ln : Int) := by omega
                  obtain ⟨s, hs, hdr2⟩ := at_lt (l := ls) (k := j) (by rw [HLN.out]; exact hjt)
                  have HDR2 : Aside (ls.drop j = s :: ls.drop (j + 1)) := hdr2
                  obtain ⟨lb, lo, rfl, x0⟩ := LEL.out j s hs
                  have hsz : s.size ≤ 1048576 := Z4.out s (List.mem_of_getElem? hs)
                  obtain ⟨B3, hB3⟩ : ∃ B3, valid s.data.toList = B3 := ⟨_, rfl⟩
                  have HB3 : Aside (valid s.data.toList = B3) := hB3
                  clear hs hdr2 hB3
                  go_wp2_with fail
                  refine (validW s W (by omega)).mono ?_
                  rw [HB3.out]
                  rintro e w ⟨rfl, hw⟩
                  rw [hw]
                  clear hw
                  cases B3
                  · go_wp2_with fail
                    go_ret
                    have := fin2.out false (by rw [← HA.out, HDR2.out, List.all_cons, HB3.out]; rfl)
                    exact ⟨by rw [← this]; rfl, rfl⟩
                  · go_wp2_with fail
                    go_roundg (gk - 1)
                    case measure => omega
                    case rel =>
                      refine ⟨rfl, j + 1, by omega, rfl, ?_⟩
                      have := HA.out
                      rw [HDR2.out, List.all_cons, HB3.out, Bool.true_and] at this
                      exact this
                · have h3 : decide ((j : Int) < (ln : Int)) = false := by simp; omega
                  go_wp2_with fail
                  go_roundg (n - (k + 1))
                  case measure => omega
                  case rel =>
                    have e9 : ls.drop j = [] := List.drop_eq_nil_of_le (by rw [HLN.out]; omega)
                    have := fin2.out true (by rw [← HA.out, e9]; rfl)
                    exact ⟨rfl, k + 1, by omega, rfl, by rw [← this]; rfl⟩
          · have h4 : ((kd : Int) == 4) = false := by rw [beq_eq_false_iff_ne]; omega
            have h5 : decide ((5 : Int) < (kd : Int)) = false := by simp; omega
            have HK4 : Aside ((kd == 4 || decide (5 < kd)) = false) := by
              show (kd == 4 || decide (5 < kd)) = false
              rw [decide_eq_false (by omega), Bool.or_false, beq_eq_false_iff_ne]; omega
            clear hk4 hk0
            go_wp2_with fail
            go_roundg (gk - 1)
            case measure => omega
            case rel =>
              have := fin.out true (by rw [HK.out, HB1.out, HK0.out, HK4.out]; rfl)
              exact ⟨rfl, k + 1, by omega, rfl, by rw [← this]; rfl⟩
    · have h2 : decide ((k : Int) < (n : Int)) = false := by simp; omega
      go_wp2_with fail
      go_ret
      have := HF.out
      rw [List.drop_eq_nil_of_le (by rw [HN.out]; omega)] at this
      exact ⟨by rw [← this]; rfl, rfl⟩
end Go.Proofs.Qxb6604447aGreatFmt
