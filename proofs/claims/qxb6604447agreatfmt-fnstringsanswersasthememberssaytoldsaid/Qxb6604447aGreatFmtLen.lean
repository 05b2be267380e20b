/-
  Lengths: what the bound on total length gives.
-/
import Derived.Test.Qxb6604447aGreatFmtPl
namespace Go.Proofs.Qxb6604447aGreatFmt
set_option maxRecDepth 1000000
open Go.RowKit Go.Lib

theorem szs_mem {ls : List ByteArray} {s : ByteArray} (h : s ∈ ls) : s.size ≤ szs ls := by
  induction ls with
  | nil => cases h
  | cons x r ih =>
    rw [szs, List.map_cons, List.sum_cons]
    rcases List.mem_cons.1 h with rfl | h
    · omega
    · have := ih h
      rw [szs] at this; omega
theorem tot_mem {ms : List Mem} {m : Mem} (h : m ∈ ms) : m.w ≤ tot ms := by
  induction ms with
  | nil => cases h
  | cons x r ih =>
    rw [tot, List.map_cons, List.sum_cons]
    rcases List.mem_cons.1 h with rfl | h
    · omega
    · have := ih h
      rw [tot] at this; omega
theorem small_of {ms : List Mem} (h : tot ms ≤ 1048576) : ∀ m ∈ ms, m.small := fun m hm => by
  have h1 := tot_mem hm
  rw [Mem.w] at h1
  exact ⟨by omega, by omega, by omega, fun s hs => by have := szs_mem hs; omega⟩
theorem jn_len (sep : List UInt8) : ∀ ts : List (List UInt8), (jn sep ts).length ≤ (ts.map fun t => t.length + sep.length).sum
  | [] => by simp [jn]
  | [t] => by simp [jn]
  | t :: u :: r => by
    have := jn_len sep (u :: r)
    rw [jn, List.length_append, List.length_append, List.map_cons, List.sum_cons]
    omega
theorem encs_len (ls : List ByteArray) : ((encs ls).map fun t => t.length + 1).sum ≤ 6 * szs ls + 3 * ls.length := by
  induction ls with
  | nil => simp [encs, szs]
  | cons s r ih =>
    have h := enc_len s.data.toList
    rw [len_list] at h
    rw [encs] at ih
    rw [encs, List.map_cons, List.map_cons, List.sum_cons, szs, List.map_cons, List.sum_cons, List.length_cons]
    rw [szs] at ih
    omega
theorem intr_len (w : Nat) : (intr w).length ≤ 5 := by
  unfold intr
  split
  · decide
  · split
    · decide
    · split
      · decide
      · split <;> decide
theorem mixed_sum (p w : Nat) (ls : List ByteArray) : ((mixed p w ls).map fun t => t.length + 1).sum ≤ 6 * szs ls + 3 * ls.length + 6 := by
  have h := encs_len ls
  have h2 := intr_len w
  rw [← List.take_append_drop p (encs ls), List.map_append, List.sum_append] at h
  rw [mixed, List.map_append, List.sum_append, List.map_cons, List.sum_cons]
  omega
theorem vtxt_len (m : Mem) : m.vtxt.length ≤ 9 * m.w + 10 := by
  unfold Mem.vtxt Mem.w
  split
  · have h := enc_len m.text.data.toList
    rw [len_list] at h
    omega
  · split
    · simp
    · split
      · simp
      · split
        · simp
        · split
          · have h := jn_len [44] (encs m.list)
            have h2 := encs_len m.list
            have h3 : ((encs m.list).map fun t => t.length + ([44] : List UInt8).length).sum = ((encs m.list).map fun t => t.length + 1).sum := rfl
            rw [List.length_cons, List.length_append, List.length_cons, List.length_nil]
            omega
          · split
            · simp
            · have h := jn_len [44] (mixed (m.kind % (m.list.length + 1)) (m.kind / 8 % 5) m.list)
              have h2 := mixed_sum (m.kind % (m.list.length + 1)) (m.kind / 8 % 5) m.list
              have h3 : ((mixed (m.kind % (m.list.length + 1)) (m.kind / 8 % 5) m.list).map fun t => t.length + ([44] : List UInt8).length).sum = ((mixed (m.kind % (m.list.length + 1)) (m.kind / 8 % 5) m.list).map fun t => t.length + 1).sum := rfl
              rw [List.length_cons, List.length_append, List.length_cons, List.length_nil]
              omega
theorem mtx_len (m : Mem) : m.mtx.length ≤ 15 * m.w + 13 := by
  have h := enc_len m.name.data.toList
  rw [len_list] at h
  have h2 := vtxt_len m
  have h3 : m.name.size ≤ m.w := by rw [Mem.w]; omega
  rw [Mem.mtx, List.length_append, List.length_cons]
  omega
theorem mtx_sum (ms : List Mem) : ((ms.map Mem.mtx).map fun t => t.length + 2).sum ≤ 15 * tot ms + 15 * ms.length := by
  induction ms with
  | nil => simp [tot]
  | cons m r ih =>
    have h := mtx_len m
    rw [tot] at ih
    rw [List.map_cons, List.map_cons, List.sum_cons, tot, List.map_cons, List.sum_cons, List.length_cons]
    omega
theorem obj_len (ms : List Mem) (h : ms.length + tot ms ≤ 1048576) : (jn [44, 32] (ms.map Mem.mtx)).length + 5 ≤ 1099511627776 := by
  have h1 := jn_len [44, 32] (ms.map Mem.mtx)
  have h2 := mtx_sum ms
  have h3 : ((ms.map Mem.mtx).map fun t => t.length + ([44, 32] : List UInt8).length).sum = ((ms.map Mem.mtx).map fun t => t.length + 2).sum := rfl
  omega
end Go.Proofs.Qxb6604447aGreatFmt
