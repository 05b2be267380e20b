/-
  The walk of unit at an escape that zzAppendString wrote.
-/
import Derived.Test.Qxb6604447aGreatFmtAStr
namespace Go.Proofs.Qxb6604447aGreatFmt
set_option maxRecDepth 1000000
open Go.RowKit Go.Lib

theorem drop_cells {g : Nat} {L : List UInt8} {W : World} (h : Dat g L W) {p : Nat} {A rest : List UInt8} (hd : L.drop p = A ++ rest) {j : Nat} {x : UInt8} (hx : A[j]? = some x) : W.cell? ⟨g, p + j, none⟩ = some (.int .u8 (x.toNat : Int)) := by
  refine h.cell ?_
  have hj : j < A.length := (List.getElem?_eq_some_iff.1 hx).1
  have : (L.drop p)[j]? = some x := by rw [hd, List.getElem?_append_left hj, hx]
  rwa [List.getElem?_drop] at this

theorem or16 {d : Int} (h0 : 0 ≤ d) (h1 : d < 16) : bits .or .i32 16 d = 16 + d := by
  have key : ∀ n : Fin 16, bits .or .i32 16 (n.val : Int) = 16 + (n.val : Int) := by decide
  have := key ⟨d.toNat, by omega⟩
  simp only [Int.toNat_of_nonneg h0] at this
  exact this

set_option maxHeartbeats 2000000 in
theorem unitW {R g : Nat} {L : List UInt8} {cap pos : Nat} {bv : Value} {bs : List UInt8} (W : World) (h : Rd R g L cap pos bv bs W) (p : Nat) (c y1 y2 : UInt8) (rest : List UInt8) (hc : c.toNat < 32)
    (hy1 : y1.toNat = hexd (c.toNat / 16)) (hy2 : y2.toNat = hexd (c.toNat % 16)) (hd : L.drop p = [92, 117, 48, 48, y1, y2] ++ rest) :
    Calls Tryz.prog 45 #[.pointer (some ⟨R, 0, none⟩), .int .i64 (p : Int)] W fun e W' => e = .returned (.tuple #[.int .i32 (c.toNat : Int), .bool true]) ∧ W' = W := by
  have c0 := h.c0
  have hlen := h.hlen
  have hcp := h.hcap
  have hmx := h.hmax
  unfold maxLen at hmx
  have hpl : p + 6 ≤ L.length := by
    have := congrArg List.length hd
    simp only [List.length_drop, List.length_append, List.length_cons, List.length_nil] at this
    omega
  have d0 : W.cell? ⟨g, p, none⟩ = some (.int .u8 92) := drop_cells h.dat hd (j := 0) rfl
  have d1 : W.cell? ⟨g, p + 1, none⟩ = some (.int .u8 117) := drop_cells h.dat hd (j := 1) rfl
  have d2 : W.cell? ⟨g, p + 2, none⟩ = some (.int .u8 48) := drop_cells h.dat hd (j := 2) rfl
  have d3 : W.cell? ⟨g, p + 3, none⟩ = some (.int .u8 48) := drop_cells h.dat hd (j := 3) rfl
  have d4 : W.cell? ⟨g, p + 4, none⟩ = some (.int .u8 (y1.toNat : Int)) := drop_cells h.dat hd (j := 4) rfl
  have d5 : W.cell? ⟨g, p + 5, none⟩ = some (.int .u8 (y2.toNat : Int)) := drop_cells h.dat hd (j := 5) rfl
  have hp6 : ¬ ((L.length : Int) < (p : Int) + 6) := by omega
  have hp1 : (p : Int) < (L.length : Int) := by omega
  have hp2 : (p : Int) + 1 < (L.length : Int) := by omega
  have htn1 : ((p : Int) + 1).toNat = p + 1 := by omega
  clear h hd
  go_enter Tryz.func45, Tryz.ntmps45
  go_wp2_with fail
  have HY : Aside (y1.toNat = hexd (c.toNat / 16) ∧ y2.toNat = hexd (c.toNat % 16)) := ⟨hy1, hy2⟩
  have d3' : W.cell? ⟨g, p + 2 + 1, none⟩ = some (.int .u8 48) := d3
  have d4' : W.cell? ⟨g, p + 2 + 2, none⟩ = some (.int .u8 (y1.toNat : Int)) := d4
  have d5' : W.cell? ⟨g, p + 2 + 3, none⟩ = some (.int .u8 (y2.toNat : Int)) := d5
  clear hy1 hy2 d0 d1 d3 d4 d5
  go_loopg [4, 48] 4 (fun g' s4 s48 wx => W = wx ∧ ∃ k : Nat, g' + k = 4 ∧ s48 = .int .i64 k ∧ ∃ u : Nat, s4 = .int .i32 u ∧ u = (if k ≤ 2 then 0 else if k = 3 then c.toNat / 16 else c.toNat))
  case atStart => exact ⟨rfl, 0, by omega, rfl, 0, rfl, rfl⟩
  case round =>
    obtain ⟨rfl, k, hk, rfl, u, rfl, hu⟩ := hrel
    have hk5 : k = 0 ∨ k = 1 ∨ k = 2 ∨ k = 3 ∨ k = 4 := by omega
    rcases hk5 with rfl | rfl | rfl | rfl | rfl
    · obtain rfl : u = 0 := hu
      go_wp2
      go_roundg 3
      case measure => omega
      case rel => exact ⟨rfl, 1, by omega, by go_num, 0, by go_num, rfl⟩
    · obtain rfl : u = 0 := hu
      go_wp2
      go_roundg 2
      case measure => omega
      case rel => exact ⟨rfl, 2, by omega, by go_num, 0, by go_num, rfl⟩
    · obtain rfl : u = 0 := hu
      have hc16 : c.toNat / 16 = 0 ∨ c.toNat / 16 = 1 := by omega
      have hyv := HY.out.1
      rcases hc16 with h16 | h16
      · have hyi : (y1.toNat : Int) = 48 := by rw [hyv, h16]; rfl
        have H16 : Hid (c.toNat / 16 = 0) := h16
        clear h16 hyv
        go_wp2
        go_roundg 1
        case measure => omega
        case rel => exact ⟨rfl, 3, by omega, by go_num, 0, by go_num, H16.out.symm⟩
      · have hyi : (y1.toNat : Int) = 49 := by rw [hyv, h16]; rfl
        have H16 : Hid (c.toNat / 16 = 1) := h16
        clear h16 hyv
        go_wp2
        go_roundg 1
        case measure => omega
        case rel => exact ⟨rfl, 3, by omega, by go_num, 1, by go_num, H16.out.symm⟩
    · have hu' : u = c.toNat / 16 := hu
      have hyv := HY.out.2
      clear hu
      have hu01 : u = 0 ∨ u = 1 := by omega
      have HU : Hid (u = c.toNat / 16) := hu'
      clear hu'
      by_cases h10 : c.toNat % 16 < 10
      · have hyi : y2.toNat = 48 + c.toNat % 16 := by rw [hyv]; exact if_pos h10
        clear hyv
        have b1 : (48 : Int) ≤ (y2.toNat : Int) := by omega
        have b2 : (y2.toNat : Int) ≤ 57 := by omega
        rcases hu01 with rfl | rfl
        · go_wp2
          go_roundg 0
          case measure => omega
          case rel =>
            refine ⟨rfl, 4, by omega, by go_num, c.toNat, ?_, by simp⟩
            have := HU.out
            congr 1; omega
        · go_wp2
          go_roundg 0
          case measure => omega
          case rel =>
            refine ⟨rfl, 4, by omega, by go_num, c.toNat, ?_, by simp⟩
            have := HU.out
            rw [or16 (by omega) (by omega)]
            congr 1; omega
      · have hyi : y2.toNat = 87 + c.toNat % 16 := by rw [hyv]; exact if_neg h10
        clear hyv
        have b1 : (97 : Int) ≤ (y2.toNat : Int) := by omega
        have b2 : (y2.toNat : Int) ≤ 102 := by omega
        rcases hu01 with rfl | rfl
        · go_wp2
          go_roundg 0
          case measure => omega
          case rel =>
            refine ⟨rfl, 4, by omega, by go_num, c.toNat, ?_, by simp⟩
            have := HU.out
            congr 1; omega
        · go_wp2
          go_roundg 0
          case measure => omega
          case rel =>
            refine ⟨rfl, 4, by omega, by go_num, c.toNat, ?_, by simp⟩
            have := HU.out
            rw [or16 (by omega) (by omega)]
            congr 1; omega
    · obtain rfl : u = c.toNat := by simpa using hu
      go_wp2
      go_ret2
      exact ⟨rfl, rfl⟩
end Go.Proofs.Qxb6604447aGreatFmt
