/-
  The walk of zzMembersTooBig: whatever it answers, it answers, and leaves memory as it was.
-/
import Derived.Test.Qxb6604447aGreatFmtMem
namespace Go.Proofs.Qxb6604447aGreatFmt
set_option maxRecDepth 1000000
open Go.RowKit Go.Lib

/-- What a call of zzMembersTooBig leaves. -/
def TPost (W : World) (e : Ending) (W' : World) : Prop := Below W.heap.size W W' ∧ ∃ bo, e = .returned (.bool bo)

set_option maxHeartbeats 4000000 in
theorem tooBigW (v : Value) (ms : List Mem) (name : ByteArray) (W : World) (hv : MV v ms W) (hlen : ms.length ≤ 1048576) (hnm : name.size ≤ 1048576) (hsm : ∀ m ∈ ms, m.small) :
    Calls Tryz.prog 7 #[v, .string name] W (TPost W) := by
  obtain ⟨ao, c, rfl, _, hel⟩ := hv
  have HEL : Aside (∀ (j : Nat) m, ms[j]? = some m → ∃ b o, ao = some ⟨b, o, none⟩ ∧ MC b (o + j * 4) m W) := hel
  have HSM : Aside (∀ m ∈ ms, m.small) := hsm
  obtain ⟨n, hn⟩ : ∃ n, ms.length = n := ⟨_, rfl⟩
  rw [hn] at hlen ⊢
  have HN : Aside (ms.length = n) := hn
  clear hel hn hsm
  have hb1 : ¬ (1048576 : Int) < (n : Int) := by omega
  have hb2 : ¬ (1048576 : Int) < (name.size : Int) := by omega
  by_cases h64 : name.size + 64 * n ≤ 1048576
  · have hb3 : ¬ (1048576 : Int) < (name.size : Int) + 64 * (n : Int) := by omega
    go_enter Tryz.func7, Tryz.ntmps7
    go_wp2_with fail
    go_loopg [5, 6] n (fun g s5 s6 wx => Below W.heap.size W wx ∧ ∃ k t : Nat, g + k = n ∧ s6 = .int .i64 k ∧ s5 = .int .i64 t ∧ t ≤ 1048576)
    case atStart => exact ⟨Below.refl _ _, 0, name.size + 64 * n, by omega, rfl, by simp, h64⟩
    case round =>
      obtain ⟨hb, k, t, hk, rfl, rfl, ht2⟩ := hrel
      have HB : Aside (Below W.heap.size W wr) := hb
      by_cases hlt : k < n
      · have h2 : (k : Int) < (n : Int) := by omega
        obtain ⟨m, hm, hdr⟩ := at_lt (l := ms) (k := k) (by rw [HN.out]; exact hlt)
        obtain ⟨b, o, rfl, mc⟩ := HEL.out k m hm
        obtain ⟨z1, z2, z3, z4⟩ := HSM.out m (List.mem_of_getElem? hm)
        have Z4 : Aside (∀ s ∈ m.list, s.size ≤ 1048576) := z4
        have hbl : b < W.heap.size := World.block_lt_of_cell? W _ mc.c0
        obtain ⟨nm, kd, tx, ls⟩ := m
        have w0 : W.cell? ⟨b, o + k * 4, none⟩ = some (.string nm) := mc.c0
        have w2 : W.cell? ⟨b, o + k * 4 + 2, none⟩ = some (.string tx) := mc.c2
        obtain ⟨lv, w3, lao, lc, rfl, _, lel⟩ := mc.c3
        simp only at w3 lel z1 z2 z3
        have LEL : Aside (∀ (j : Nat) s, ls[j]? = some s → ∃ b o, lao = some ⟨b, o, none⟩ ∧ W.cell? ⟨b, o + j, none⟩ = some (.string s)) := lel
        obtain ⟨ln, hln⟩ : ∃ ln, ls.length = ln := ⟨_, rfl⟩
        rw [hln] at w3 z3
        have HLN : Aside (ls.length = ln) := hln
        have W3 : Aside (W.cell? ⟨b, o + k * 4 + 3, none⟩ = some (.slice lao ln lc)) := w3
        have c0 := (hb.cell hbl).trans w0
        have c2 := (hb.cell hbl).trans w2
        have c3 := (hb.cell hbl).trans w3
        have a1 : ¬ (1048576 : Int) < (nm.size : Int) := by omega
        have a3 : ¬ (1048576 : Int) < (tx.size : Int) := by omega
        clear mc hm hdr lel hln z4 w0 w2 w3 hb
        by_cases h65 : ln ≤ 65536
        · have a5 : ¬ (65536 : Int) < (ln : Int) := by omega
          obtain ⟨t1, ht1⟩ : ∃ t1, t + (nm.size + tx.size + 16 * ln) = t1 := ⟨_, rfl⟩
          have ht1' : (t : Int) + ((nm.size : Int) + (tx.size : Int) + 16 * (ln : Int)) = (t1 : Int) := by omega
          by_cases hs : t1 ≤ 1048576
          · have a6 : ¬ (1048576 : Int) < (t1 : Int) := by omega
            go_wp2_with fail
            go_quiet (fail)
            go_wp2_with fail
            go_loopg [5, 7] ln (fun g s5 s7 wx => Below W.heap.size W wx ∧ ∃ j u : Nat, g + j = ln ∧ s7 = .int .i64 j ∧ s5 = .int .i64 u ∧ u ≤ 1048576)
            case atStart => exact ⟨bdrew HB.out _, 0, t1, by omega, rfl, rfl, hs⟩
            case round =>
              obtain ⟨hb2, j, u, hj, rfl, rfl, hu2⟩ := hrel
              have HB2 : Aside (Below W.heap.size W wr) := hb2
              have x3 := (hb2.cell hbl).trans W3.out
              by_cases hjt : j < ln
              · have h3 : (j : Int) < (ln : Int) := by omega
                obtain ⟨s, hs5, _⟩ := at_lt (l := ls) (k := j) (by rw [HLN.out]; exact hjt)
                obtain ⟨lb, lo, rfl, xw⟩ := LEL.out j s hs5
                have xs := (hb2.cell (World.block_lt_of_cell? W _ xw)).trans xw
                have hsz : s.size ≤ 1048576 := Z4.out s (List.mem_of_getElem? hs5)
                have b1 : ¬ (1048576 : Int) < (s.size : Int) := by omega
                clear hs5 hb2 xw c0 c2 c3
                by_cases hs2 : u + s.size ≤ 1048576
                · have b2 : ¬ (1048576 : Int) < (u : Int) + (s.size : Int) := by omega
                  go_wp2_with fail
                  go_roundg (gk - 1)
                  case measure => omega
                  case rel => exact ⟨HB2.out, j + 1, u + s.size, by omega, rfl, rfl, hs2⟩
                · have b2 : (1048576 : Int) < (u : Int) + (s.size : Int) := by omega
                  go_wp2_with fail
                  go_ret
                  exact ⟨HB2.out, true, rfl⟩
              · have h3 : decide ((j : Int) < (ln : Int)) = false := by simp; omega
                clear hb2 c0 c2 c3
                go_wp2_with fail
                go_roundg (n - (k + 1))
                case measure => omega
                case rel => exact ⟨HB2.out, k + 1, u, by omega, rfl, rfl, hu2⟩
          · have a6 : (1048576 : Int) < (t1 : Int) := by omega
            go_wp2_with fail
            go_quiet (fail)
            go_wp2_with fail
            go_ret
            exact ⟨bdrew HB.out _, true, rfl⟩
        · have a5 : (65536 : Int) < (ln : Int) := by omega
          go_wp2_with fail
          go_ret
          exact ⟨HB.out, true, rfl⟩
      · have h2 : decide ((k : Int) < (n : Int)) = false := by simp; omega
        clear hb
        go_wp2_with fail
        go_ret
        exact ⟨HB.out, false, rfl⟩
  · have hb3 : (1048576 : Int) < (name.size : Int) + 64 * (n : Int) := by omega
    go_enter Tryz.func7, Tryz.ntmps7
    go_wp2_with fail
    go_ret
    exact ⟨Below.refl _ _, true, rfl⟩
end Go.Proofs.Qxb6604447aGreatFmt
