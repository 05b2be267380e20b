/-
  The walk of zzAppendString.
-/
import Derived.Test.Qxb6604447aGreatFmtApp
namespace Go.Proofs.Qxb6604447aGreatFmt
set_option maxRecDepth 1000000
open Go.RowKit Go.Lib

theorem cells_new (W : World) (news : List UInt8) (t : TypeId) : ∀ (j : Nat) (b : UInt8), news[j]? = some b → (W.alloc (.cells (Lib.byteCells news).toArray t)).cell? ((⟨W.heap.size, 0, none⟩ : Addr).add j) = some (.int .u8 (b.toNat : Int)) := by
  intro j b hj
  have hadd : (⟨W.heap.size, 0, none⟩ : Addr).add j = ⟨W.heap.size, j, none⟩ := by unfold Addr.add; split <;> simp_all
  have hb : (W.alloc (.cells (Lib.byteCells news).toArray t)).heap[W.heap.size]? = some (.cells (Lib.byteCells news).toArray t (0, 0)) := by
    show (W.heap.push _)[W.heap.size]? = _
    simp
  rw [hadd, Lib.cell_of_heap hb]
  simp [Lib.byteCells, hj]

theorem encB_snoc (l : List UInt8) (c : UInt8) : encB (l ++ [c]) = encB l ++ encC c := by
  rw [encB_append]; simp [encB]
theorem encC_len (c : UInt8) : (encC c).length ≤ 6 := by
  unfold encC; split
  · simp
  · split <;> simp
theorem encB_len : ∀ l : List UInt8, (encB l).length ≤ 6 * l.length
  | [] => Nat.le_refl _
  | c :: l => by have := encB_len l; have := encC_len c; simp only [encB, List.length_append, List.length_cons]; omega
theorem hexd_lt {d : Nat} (h : d < 16) : hexd d < 256 := by unfold hexd; split <;> omega

set_option maxHeartbeats 2000000 in
theorem appendStringW (s : ByteArray) (v : Value) (L : List UInt8) (W : World) (hown : Own v L W) (hs : s.size ≤ 1048576) (hL : L.length ≤ 1099511627776) :
    Calls Tryz.prog 18 #[v, .string s] W fun e W' => ∃ v', e = .returned v' ∧ Own v' (L ++ enc s.data.toList) W' ∧ Gr v W v' W' := by
  have HO : Aside (Own v L W) := hown
  clear hown
  go_enter Tryz.func18, Tryz.ntmps18
  go_wp2_with (at_builtin; refine wpl_app _ rfl _ _ rfl v L rfl ?xo ⟨W.heap.size, 0, none⟩ 1 1 [34] rfl rfl ?xc ?xb ?_)
  case xo => exact HO.out.alloc _
  case xc => exact cells_new W [34] 5
  case xb => omega
  intro v1 W1 own1 gr1 sh1
  obtain ⟨g1, cap1, rfl⟩ := sh1.get (by omega)
  have O1 : Aside (Own (.slice (some ⟨g1, 0, none⟩) (L.length + 1) cap1) (L ++ [34]) W1) := own1
  have G1 : Aside (Gr v W (.slice (some ⟨g1, 0, none⟩) (L.length + 1) cap1) W1) := ((Gr.refl v W).alloc _).trans gr1
  clear own1 gr1 sh1
  go_wp2_with fail
  go_loopg [0, 5] s.size (fun g s0 s5 wx => ∃ (k gg n cc : Nat), g + k = s.size ∧ s5 = .int .i64 k ∧ s0 = .slice (some ⟨gg, 0, none⟩) n cc ∧ n = (L ++ 34 :: encB (s.data.toList.take k)).length ∧ Own (.slice (some ⟨gg, 0, none⟩) n cc) (L ++ 34 :: encB (s.data.toList.take k)) wx ∧ Gr v W (.slice (some ⟨gg, 0, none⟩) n cc) wx)
  case atStart => exact ⟨0, g1, L.length + 1, cap1, by omega, rfl, rfl, by simp [encB], by simpa [encB] using O1.out, G1.out⟩
  case round =>
    obtain ⟨k, gg, n, cc, hk, rfl, rfl, hn, ho, hg⟩ := hrel
    have hel := encB_len (s.data.toList.take k)
    have htl : (s.data.toList.take k).length ≤ k := by simp; omega
    have hn2 : (L ++ 34 :: encB (s.data.toList.take k)).length ≤ L.length + 1 + 6 * k := by simp only [List.length_append, List.length_cons]; omega
    have HO2 : Aside (Own (.slice (some ⟨gg, 0, none⟩) n cc) (L ++ 34 :: encB (s.data.toList.take k)) wr) := ho
    have HG2 : Aside (Gr v W (.slice (some ⟨gg, 0, none⟩) n cc) wr) := hg
    have HN : Aside (n = (L ++ 34 :: encB (s.data.toList.take k)).length) := hn
    obtain ⟨M, hM⟩ : ∃ M, L ++ 34 :: encB (s.data.toList.take k) = M := ⟨_, rfl⟩
    rw [hM] at hn2
    have HM : Aside (L ++ 34 :: encB (s.data.toList.take k) = M) := hM
    have HO3 : Aside (Own (.slice (some ⟨gg, 0, none⟩) n cc) M wr) := by have := HO2.out; rw [hM] at this; exact this
    have HNM : Aside (n = M.length) := by have := HN.out; rw [hM] at this; exact this
    clear hel htl ho hg hM hn HO2 HN
    cases gk with
    | zero =>
      have hks : ¬ ((k : Int) < (s.size : Int)) := by omega
      go_wp2_with (at_builtin; go_must (refine wpl_app _ rfl _ _ rfl (.slice (some ⟨gg, 0, none⟩) n cc) M rfl ?xo ⟨wr.heap.size, 0, none⟩ 1 1 [34] rfl rfl ?xc ?xb ?_))
      case xo => exact HO3.out.alloc _
      case xc => exact cells_new wr [34] 5
      case xb => omega
      intro v2 W2 own2 gr2 sh2
      obtain ⟨g2, cap2, rfl⟩ := sh2.get (by omega)
      have O2 : Aside (Own (.slice (some ⟨g2, 0, none⟩) (M.length + 1) cap2) (M ++ [34]) W2) := own2
      have G2 : Aside (Gr v W (.slice (some ⟨g2, 0, none⟩) (M.length + 1) cap2) W2) := (HG2.out.alloc _).trans gr2
      clear own2 gr2 sh2
      go_wp2
      go_ret
      refine ⟨_, rfl, ?_, G2.out⟩
      have e : L ++ enc s.data.toList = M ++ [34] := by
        rw [← HM.out, List.take_of_length_le (by rw [← Lib.size_eq]; omega)]
        simp [enc]
      rw [e]; exact O2.out
    | succ g =>
      have hks : ((k : Int) < (s.size : Int)) := by omega
      obtain ⟨x, hx⟩ : ∃ x : UInt8, s[k]'(by omega) = x := ⟨_, rfl⟩
      have hxl : s.data.toList[k]? = some x := by rw [← hx]; exact Lib.data_getElem? s k (by omega)
      have HT : Aside (L ++ 34 :: encB (s.data.toList.take (k + 1)) = M ++ encC x) := by
        show _ = _
        rw [List.take_add_one, hxl, ← HM.out]
        simp [encB_snoc]
      have hx256 := x.toNat_lt
      clear hxl
      by_cases hq : x.toNat = 34 ∨ x.toNat = 92
      · have HX : Aside (encC x = [92, x]) := encC_esc hq
        rcases hq with hq | hq
        · have e34 : ((x.toNat : Int) == 34) = true := by simp; omega
          clear hq
          go_wp2_with (at_builtin; refine wpl_app _ rfl _ _ rfl (.slice (some ⟨gg, 0, none⟩) n cc) M rfl ?xo ⟨wr.heap.size, 0, none⟩ 2 2 [92, x] rfl rfl ?xc ?xb ?_)
          case xo => exact HO3.out.alloc _
          case xc => exact cells_new wr [92, x] 5
          case xb => omega
          intro v2 W2 own2 gr2 sh2
          obtain ⟨g2, cap2, rfl⟩ := sh2.get (by omega)
          have O2 : Aside (Own (.slice (some ⟨g2, 0, none⟩) (M.length + 2) cap2) (M ++ [92, x]) W2) := own2
          have G2 : Aside (Gr v W (.slice (some ⟨g2, 0, none⟩) (M.length + 2) cap2) W2) := (HG2.out.alloc _).trans gr2
          clear own2 gr2 sh2
          go_wp2
          go_roundg g
          case measure => omega
          case rel =>
            have e := HT.out
            rw [HX.out] at e
            exact ⟨k + 1, g2, M.length + 2, cap2, by omega, by go_num, rfl, by rw [e]; simp, by rw [e]; exact O2.out, G2.out⟩
        · have e34 : ((x.toNat : Int) == 34) = false := by simp; omega
          have e92 : ((x.toNat : Int) == 92) = true := by simp; omega
          clear hq
          go_wp2_with (at_builtin; refine wpl_app _ rfl _ _ rfl (.slice (some ⟨gg, 0, none⟩) n cc) M rfl ?xo ⟨wr.heap.size, 0, none⟩ 2 2 [92, x] rfl rfl ?xc ?xb ?_)
          case xo => exact HO3.out.alloc _
          case xc => exact cells_new wr [92, x] 5
          case xb => omega
          intro v2 W2 own2 gr2 sh2
          obtain ⟨g2, cap2, rfl⟩ := sh2.get (by omega)
          have O2 : Aside (Own (.slice (some ⟨g2, 0, none⟩) (M.length + 2) cap2) (M ++ [92, x]) W2) := own2
          have G2 : Aside (Gr v W (.slice (some ⟨g2, 0, none⟩) (M.length + 2) cap2) W2) := (HG2.out.alloc _).trans gr2
          clear own2 gr2 sh2
          go_wp2
          go_roundg g
          case measure => omega
          case rel =>
            have e := HT.out
            rw [HX.out] at e
            exact ⟨k + 1, g2, M.length + 2, cap2, by omega, by go_num, rfl, by rw [e]; simp, by rw [e]; exact O2.out, G2.out⟩
      · by_cases hctl : x.toNat < 32
        · have e34 : ((x.toNat : Int) == 34) = false := by simp; omega
          have e92 : ((x.toNat : Int) == 92) = false := by simp; omega
          have e32 : ((x.toNat : Int) < 32) := by omega
          have HX : Aside (encC x = [92, 117, 48, 48, (hexd (x.toNat / 16)).toUInt8, (hexd (x.toNat % 16)).toUInt8]) := encC_ctl hctl
          obtain ⟨y1, hy1⟩ : ∃ y : UInt8, (hexd (x.toNat / 16)).toUInt8 = y := ⟨_, rfl⟩
          obtain ⟨y2, hy2⟩ : ∃ y : UInt8, (hexd (x.toNat % 16)).toUInt8 = y := ⟨_, rfl⟩
          have H1 : Aside (hexd (x.toNat / 16) = y1.toNat) := by
            show _ = _
            rw [← hy1]; have := hexd_lt (d := x.toNat / 16) (by omega); simp [Nat.toUInt8]; omega
          have H2 : Aside (hexd (x.toNat % 16) = y2.toNat) := by
            show _ = _
            rw [← hy2]; have := hexd_lt (d := x.toNat % 16) (by omega); simp [Nat.toUInt8]; omega
          have HX2 : Aside (encC x = [92, 117, 48, 48, y1, y2]) := by
            show _ = _
            rw [HX.out, hy1, hy2]
          clear hq hy1 hy2 HX
          go_wp2_with fail
          rw [show ((x.toNat : Int) / 16) = ((x.toNat / 16 : Nat) : Int) from by omega]
          refine (hexW (x.toNat / 16) wr (by omega)).mono ?_
          rintro e w2 ⟨rfl, rfl⟩
          rw [H1.out]
          go_wp2_with fail
          rw [show ((x.toNat : Int) % 16) = ((x.toNat % 16 : Nat) : Int) from by omega]
          refine (hexW (x.toNat % 16) w2 (by omega)).mono ?_
          rintro e w3 ⟨rfl, rfl⟩
          rw [H2.out]
          go_wp2_with (at_builtin; refine wpl_app _ rfl _ _ rfl (.slice (some ⟨gg, 0, none⟩) n cc) M rfl ?xo ⟨w3.heap.size, 0, none⟩ 6 6 [92, 117, 48, 48, y1, y2] rfl rfl ?xc ?xb ?_)
          case xo => exact HO3.out.alloc _
          case xc => exact cells_new w3 [92, 117, 48, 48, y1, y2] 5
          case xb => omega
          intro v2 W2 own2 gr2 sh2
          obtain ⟨g2, cap2, rfl⟩ := sh2.get (by omega)
          have O2 : Aside (Own (.slice (some ⟨g2, 0, none⟩) (M.length + 6) cap2) (M ++ [92, 117, 48, 48, y1, y2]) W2) := own2
          have G2 : Aside (Gr v W (.slice (some ⟨g2, 0, none⟩) (M.length + 6) cap2) W2) := (HG2.out.alloc _).trans gr2
          clear own2 gr2 sh2
          go_wp2
          go_roundg g
          case measure => omega
          case rel =>
            have e := HT.out
            rw [HX2.out] at e
            exact ⟨k + 1, g2, M.length + 6, cap2, by omega, by go_num, rfl, by rw [e]; simp, by rw [e]; exact O2.out, G2.out⟩
        · have e34 : ((x.toNat : Int) == 34) = false := by simp; omega
          have e92 : ((x.toNat : Int) == 92) = false := by simp; omega
          have e32 : ¬ ((x.toNat : Int) < 32) := by omega
          have HX : Aside (encC x = [x]) := encC_plain (by omega) (by omega) (by omega)
          clear hq hctl
          go_wp2_with (at_builtin; refine wpl_app _ rfl _ _ rfl _ M rfl ?xo ⟨wr.heap.size, 0, none⟩ 1 1 [x] rfl rfl ?xc ?xb ?_)
          case xo => exact HO3.out.alloc _
          case xc => exact cells_new wr [x] 5
          case xb => omega
          intro v2 W2 own2 gr2 sh2
          obtain ⟨g2, cap2, rfl⟩ := sh2.get (by omega)
          have O2 : Aside (Own (.slice (some ⟨g2, 0, none⟩) (M.length + 1) cap2) (M ++ [x]) W2) := own2
          have G2 : Aside (Gr v W (.slice (some ⟨g2, 0, none⟩) (M.length + 1) cap2) W2) := (HG2.out.alloc _).trans gr2
          clear own2 gr2 sh2
          go_wp2
          go_roundg g
          case measure => omega
          case rel =>
            have e := HT.out
            rw [HX.out] at e
            exact ⟨k + 1, g2, M.length + 1, cap2, by omega, by go_num, rfl, by rw [e]; simp, by rw [e]; exact O2.out, G2.out⟩
end Go.Proofs.Qxb6604447aGreatFmt
