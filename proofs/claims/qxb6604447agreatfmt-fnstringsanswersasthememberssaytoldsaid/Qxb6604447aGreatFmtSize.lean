/-
  The walks of the two bounds on total length, zzBytes_FnStringAnswersAsTheMembersSay and zzBytes_FnStringsAnswersAsTheMembersSay, and of zzMembersTooBig.
-/
import Derived.Test.Qxb6604447aGreatFmtMem
import Derived.Test.Qxb6604447aGreatFmtAppL
namespace Go.Proofs.Qxb6604447aGreatFmt
set_option maxRecDepth 1000000
open Go.RowKit Go.Lib

def szs (ls : List ByteArray) : Nat := (ls.map ByteArray.size).sum
/-- The lengths that a member leads to. -/
def Mem.w (m : Mem) : Nat := m.name.size + m.text.size + m.list.length + szs m.list
def tot (ms : List Mem) : Nat := (ms.map Mem.w).sum
/-- What a bound's call leaves. -/
def BPost (N : Nat) (W : World) (e : Ending) (W' : World) : Prop := W' = W ∧ ∃ bo, e = .returned (.bool bo) ∧ (bo = true → N ≤ 1048576)
theorem szs_snoc {ls : List ByteArray} {k : Nat} {s : ByteArray} (h : ls[k]? = some s) : szs (ls.take (k + 1)) = szs (ls.take k) + s.size := by
  rw [take_snoc h, szs, szs]; simp
theorem tot_snoc {ms : List Mem} {k : Nat} {m : Mem} (h : ms[k]? = some m) : tot (ms.take (k + 1)) = tot (ms.take k) + m.w := by
  rw [take_snoc h, tot, tot]; simp

set_option maxHeartbeats 4000000 in
theorem bytes6W (v : Value) (ms : List Mem) (name : ByteArray) (W : World) (hv : MV v ms W) :
    Calls Tryz.prog 6 #[v, .string name] W (BPost (ms.length + tot ms + name.size) W) := by
  obtain ⟨ao, c, rfl, _, hel⟩ := hv
  have HEL : Aside (∀ (j : Nat) m, ms[j]? = some m → ∃ b o, ao = some ⟨b, o, none⟩ ∧ MC b (o + j * 4) m W) := hel
  obtain ⟨n, hn⟩ : ∃ n, ms.length = n := ⟨_, rfl⟩
  rw [hn]
  have HN : Aside (ms.length = n) := hn
  clear hel hn
  by_cases hbig : n ≤ 1048576
  · have hb1 : ¬ (1048576 : Int) < (n : Int) := by omega
    go_enter Tryz.func6, Tryz.ntmps6
    go_wp2_with fail
    go_loopg [5, 6] n (fun g s5 s6 wx => W = wx ∧ ∃ k t : Nat, g + k = n ∧ s6 = .int .i64 k ∧ s5 = .int .i64 t ∧ t = n + tot (ms.take k) ∧ t ≤ 1048576)
    case atStart => exact ⟨rfl, 0, n, by omega, rfl, rfl, by simp [tot], hbig⟩
    case round =>
      obtain ⟨rfl, k, t, hk, rfl, rfl, ht, ht2⟩ := hrel
      have HTT : Aside (t = n + tot (ms.take k)) := ht
      clear ht
      by_cases hlt : k < n
      · have h2 : (k : Int) < (n : Int) := by omega
        obtain ⟨m, hm, hdr⟩ := at_lt (l := ms) (k := k) (by rw [HN.out]; exact hlt)
        have HM : Aside (ms[k]? = some m) := hm
        obtain ⟨b, o, rfl, mc⟩ := HEL.out k m hm
        obtain ⟨nm, kd, tx, ls⟩ := m
        have c0 : W.cell? ⟨b, o + k * 4, none⟩ = some (.string nm) := mc.c0
        have c2 : W.cell? ⟨b, o + k * 4 + 2, none⟩ = some (.string tx) := mc.c2
        obtain ⟨lv, c3, lao, lc, rfl, _, lel⟩ := mc.c3
        simp only at c3 lel
        have LEL : Aside (∀ (j : Nat) s, ls[j]? = some s → ∃ b o, lao = some ⟨b, o, none⟩ ∧ W.cell? ⟨b, o + j, none⟩ = some (.string s)) := lel
        obtain ⟨ln, hln⟩ : ∃ ln, ls.length = ln := ⟨_, rfl⟩
        rw [hln] at c3
        have HLN : Aside (ls.length = ln) := hln
        clear mc hm hdr lel hln
        by_cases hsum : t + nm.size + tx.size + ln ≤ 1048576
        · have a1 : ¬ (1048576 : Int) < (nm.size : Int) := by omega
          have a2 : ¬ (1048576 : Int) < (t : Int) + (nm.size : Int) := by omega
          have a3 : ¬ (1048576 : Int) < (tx.size : Int) := by omega
          have a4 : ¬ (1048576 : Int) < (t : Int) + (nm.size : Int) + (tx.size : Int) := by omega
          have a5 : ¬ (1048576 : Int) < (ln : Int) := by omega
          have a6 : ¬ (1048576 : Int) < (t : Int) + (nm.size : Int) + (tx.size : Int) + (ln : Int) := by omega
          go_wp2_with fail
          go_loopg [5, 7] ln (fun g s5 s7 wx => W = wx ∧ ∃ j u : Nat, g + j = ln ∧ s7 = .int .i64 j ∧ s5 = .int .i64 u ∧ u = t + nm.size + tx.size + ln + szs (ls.take j) ∧ u ≤ 1048576)
          case atStart => exact ⟨rfl, 0, t + nm.size + tx.size + ln, by omega, rfl, rfl, by simp [szs], hsum⟩
          case round =>
            obtain ⟨rfl, j, u, hj, rfl, rfl, hu, hu2⟩ := hrel
            have HU : Aside (u = t + nm.size + tx.size + ln + szs (ls.take j)) := hu
            clear hu
            by_cases hjt : j < ln
            · have h3 : (j : Int) < (ln : Int) := by omega
              obtain ⟨s, hs, _⟩ := at_lt (l := ls) (k := j) (by rw [HLN.out]; exact hjt)
              have HS : Aside (ls[j]? = some s) := hs
              obtain ⟨lb, lo, rfl, xs⟩ := LEL.out j s hs
              clear hs
              by_cases hs2 : u + s.size ≤ 1048576
              · have b1 : ¬ (1048576 : Int) < (s.size : Int) := by omega
                have b2 : ¬ (1048576 : Int) < (u : Int) + (s.size : Int) := by omega
                go_wp2_with fail
                go_roundg (gk - 1)
                case measure => omega
                case rel =>
                  refine ⟨rfl, j + 1, u + s.size, by omega, rfl, rfl, ?_, hs2⟩
                  have h7 := HU.out
                  rw [szs_snoc HS.out]; omega
              · go_wp2_with fail
                all_goals first
                  | (exfalso; omega)
                  | (go_ret; exact ⟨rfl, false, rfl, fun e => by cases e⟩)
            · have h3 : decide ((j : Int) < (ln : Int)) = false := by simp; omega
              go_wp2_with fail
              go_roundg (n - (k + 1))
              case measure => omega
              case rel =>
                refine ⟨rfl, k + 1, u, by omega, rfl, rfl, ?_, hu2⟩
                have h7 := HU.out
                have h8 := HTT.out
                rw [List.take_of_length_le (by rw [HLN.out]; omega)] at h7
                rw [tot_snoc HM.out, Mem.w]
                simp only [HLN.out]
                omega
        · go_wp2_with fail
          all_goals first
            | (exfalso; omega)
            | (go_ret; exact ⟨rfl, false, rfl, fun e => by cases e⟩)
      · have h2 : decide ((k : Int) < (n : Int)) = false := by simp; omega
        have HT2 : Aside (tot (ms.take k) = tot ms) := by
          show _ = _
          rw [List.take_of_length_le (by rw [HN.out]; omega)]
        by_cases hl : t + name.size ≤ 1048576
        · have b1 : ¬ (1048576 : Int) < (name.size : Int) := by omega
          have b2 : ¬ (1048576 : Int) < (t : Int) + (name.size : Int) := by omega
          go_wp2_with fail
          go_ret
          refine ⟨rfl, true, rfl, fun _ => ?_⟩
          have h7 := HTT.out
          rw [HT2.out] at h7
          omega
        · go_wp2_with fail
          all_goals first
            | (exfalso; omega)
            | (go_ret; exact ⟨rfl, false, rfl, fun e => by cases e⟩)
  · have hb1 : (1048576 : Int) < (n : Int) := by omega
    go_enter Tryz.func6, Tryz.ntmps6
    go_wp2_with fail
    go_ret
    exact ⟨rfl, false, rfl, fun e => by cases e⟩

set_option maxHeartbeats 4000000 in
theorem bytes15W (v : Value) (ms : List Mem) (name : ByteArray) (W : World) (hv : MV v ms W) :
    Calls Tryz.prog 15 #[v, .string name] W (BPost (ms.length + tot ms + name.size) W) := by
  obtain ⟨ao, c, rfl, _, hel⟩ := hv
  have HEL : Aside (∀ (j : Nat) m, ms[j]? = some m → ∃ b o, ao = some ⟨b, o, none⟩ ∧ MC b (o + j * 4) m W) := hel
  obtain ⟨n, hn⟩ : ∃ n, ms.length = n := ⟨_, rfl⟩
  rw [hn]
  have HN : Aside (ms.length = n) := hn
  clear hel hn
  by_cases hbig : n ≤ 1048576
  · have hb1 : ¬ (1048576 : Int) < (n : Int) := by omega
    go_enter Tryz.func15, Tryz.ntmps15
    go_wp2_with fail
    go_loopg [5, 6] n (fun g s5 s6 wx => W = wx ∧ ∃ k t : Nat, g + k = n ∧ s6 = .int .i64 k ∧ s5 = .int .i64 t ∧ t = n + tot (ms.take k) ∧ t ≤ 1048576)
    case atStart => exact ⟨rfl, 0, n, by omega, rfl, rfl, by simp [tot], hbig⟩
    case round =>
      obtain ⟨rfl, k, t, hk, rfl, rfl, ht, ht2⟩ := hrel
      have HTT : Aside (t = n + tot (ms.take k)) := ht
      clear ht
      by_cases hlt : k < n
      · have h2 : (k : Int) < (n : Int) := by omega
        obtain ⟨m, hm, hdr⟩ := at_lt (l := ms) (k := k) (by rw [HN.out]; exact hlt)
        have HM : Aside (ms[k]? = some m) := hm
        obtain ⟨b, o, rfl, mc⟩ := HEL.out k m hm
        obtain ⟨nm, kd, tx, ls⟩ := m
        have c0 : W.cell? ⟨b, o + k * 4, none⟩ = some (.string nm) := mc.c0
        have c2 : W.cell? ⟨b, o + k * 4 + 2, none⟩ = some (.string tx) := mc.c2
        obtain ⟨lv, c3, lao, lc, rfl, _, lel⟩ := mc.c3
        simp only at c3 lel
        have LEL : Aside (∀ (j : Nat) s, ls[j]? = some s → ∃ b o, lao = some ⟨b, o, none⟩ ∧ W.cell? ⟨b, o + j, none⟩ = some (.string s)) := lel
        obtain ⟨ln, hln⟩ : ∃ ln, ls.length = ln := ⟨_, rfl⟩
        rw [hln] at c3
        have HLN : Aside (ls.length = ln) := hln
        clear mc hm hdr lel hln
        by_cases hsum : t + nm.size + tx.size + ln ≤ 1048576
        · have a1 : ¬ (1048576 : Int) < (nm.size : Int) := by omega
          have a2 : ¬ (1048576 : Int) < (t : Int) + (nm.size : Int) := by omega
          have a3 : ¬ (1048576 : Int) < (tx.size : Int) := by omega
          have a4 : ¬ (1048576 : Int) < (t : Int) + (nm.size : Int) + (tx.size : Int) := by omega
          have a5 : ¬ (1048576 : Int) < (ln : Int) := by omega
          have a6 : ¬ (1048576 : Int) < (t : Int) + (nm.size : Int) + (tx.size : Int) + (ln : Int) := by omega
          go_wp2_with fail
          go_loopg [5, 7] ln (fun g s5 s7 wx => W = wx ∧ ∃ j u : Nat, g + j = ln ∧ s7 = .int .i64 j ∧ s5 = .int .i64 u ∧ u = t + nm.size + tx.size + ln + szs (ls.take j) ∧ u ≤ 1048576)
          case atStart => exact ⟨rfl, 0, t + nm.size + tx.size + ln, by omega, rfl, rfl, by simp [szs], hsum⟩
          case round =>
            obtain ⟨rfl, j, u, hj, rfl, rfl, hu, hu2⟩ := hrel
            have HU : Aside (u = t + nm.size + tx.size + ln + szs (ls.take j)) := hu
            clear hu
            by_cases hjt : j < ln
            · have h3 : (j : Int) < (ln : Int) := by omega
              obtain ⟨s, hs, _⟩ := at_lt (l := ls) (k := j) (by rw [HLN.out]; exact hjt)
              have HS : Aside (ls[j]? = some s) := hs
              obtain ⟨lb, lo, rfl, xs⟩ := LEL.out j s hs
              clear hs
              by_cases hs2 : u + s.size ≤ 1048576
              · have b1 : ¬ (1048576 : Int) < (s.size : Int) := by omega
                have b2 : ¬ (1048576 : Int) < (u : Int) + (s.size : Int) := by omega
                go_wp2_with fail
                go_roundg (gk - 1)
                case measure => omega
                case rel =>
                  refine ⟨rfl, j + 1, u + s.size, by omega, rfl, rfl, ?_, hs2⟩
                  have h7 := HU.out
                  rw [szs_snoc HS.out]; omega
              · go_wp2_with fail
                all_goals first
                  | (exfalso; omega)
                  | (go_ret; exact ⟨rfl, false, rfl, fun e => by cases e⟩)
            · have h3 : decide ((j : Int) < (ln : Int)) = false := by simp; omega
              go_wp2_with fail
              go_roundg (n - (k + 1))
              case measure => omega
              case rel =>
                refine ⟨rfl, k + 1, u, by omega, rfl, rfl, ?_, hu2⟩
                have h7 := HU.out
                have h8 := HTT.out
                rw [List.take_of_length_le (by rw [HLN.out]; omega)] at h7
                rw [tot_snoc HM.out, Mem.w]
                simp only [HLN.out]
                omega
        · go_wp2_with fail
          all_goals first
            | (exfalso; omega)
            | (go_ret; exact ⟨rfl, false, rfl, fun e => by cases e⟩)
      · have h2 : decide ((k : Int) < (n : Int)) = false := by simp; omega
        have HT2 : Aside (tot (ms.take k) = tot ms) := by
          show _ = _
          rw [List.take_of_length_le (by rw [HN.out]; omega)]
        by_cases hl : t + name.size ≤ 1048576
        · have b1 : ¬ (1048576 : Int) < (name.size : Int) := by omega
          have b2 : ¬ (1048576 : Int) < (t : Int) + (name.size : Int) := by omega
          go_wp2_with fail
          go_ret
          refine ⟨rfl, true, rfl, fun _ => ?_⟩
          have h7 := HTT.out
          rw [HT2.out] at h7
          omega
        · go_wp2_with fail
          all_goals first
            | (exfalso; omega)
            | (go_ret; exact ⟨rfl, false, rfl, fun e => by cases e⟩)
  · have hb1 : (1048576 : Int) < (n : Int) := by omega
    go_enter Tryz.func15, Tryz.ntmps15
    go_wp2_with fail
    go_ret
    exact ⟨rfl, false, rfl, fun e => by cases e⟩
end Go.Proofs.Qxb6604447aGreatFmt
