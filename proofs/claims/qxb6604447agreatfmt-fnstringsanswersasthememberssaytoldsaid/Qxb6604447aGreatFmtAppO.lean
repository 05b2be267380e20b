/-
  The walks of zzAppendValue and zzAppendObject.
-/
import Derived.Test.Qxb6604447aGreatFmtAppM
namespace Go.Proofs.Qxb6604447aGreatFmt
set_option maxRecDepth 1000000
open Go.RowKit Go.Lib

/-- The text of a member's value. -/
def Mem.vtxt (m : Mem) : List UInt8 :=
  if m.kind = 0 then enc m.text.data.toList else if m.kind = 1 then [110, 117, 108, 108] else if m.kind = 2 then [116, 114, 117, 101] else if m.kind = 3 then [45, 49, 50, 46, 53, 101, 49]
  else if m.kind = 4 then 91 :: (jn [44] (encs m.list) ++ [93]) else if m.kind = 5 then [123, 125] else 91 :: (jn [44] (mixed (m.kind % (m.list.length + 1)) (m.kind / 8 % 5) m.list) ++ [93])

set_option maxHeartbeats 2000000 in
theorem valueW (m : Mem) (hkd : m.kind < 256) (hsm : m.small) (lao : Option Addr) (lc : Nat) (v : Value) (L : List UInt8) (W : World) (hown : Own v L W) (hlc : ∀ vx X, Gr v W vx X → LC lao m.list X)
    (hT : L.length + m.vtxt.length ≤ 1099511627776) :
    Calls Tryz.prog 20 #[v, .agg #[.string m.name, .int .u8 (m.kind : Int), .string m.text, .slice lao m.list.length lc]] W fun e W' => ∃ v', e = .returned v' ∧ Own v' (L ++ m.vtxt) W' ∧ Gr v W v' W' := by
  obtain ⟨nm, kd, tx, ls⟩ := m
  obtain ⟨z1, z2, z3, z4⟩ := hsm
  simp only at hkd hlc z1 z2 z3 z4 ⊢
  have HO : Aside (Own v L W) := hown
  have HLC : Aside (∀ vx X, Gr v W vx X → LC lao ls X) := hlc
  have HS : Aside (∀ s ∈ ls, s.size ≤ 1048576) := z4
  have HT : Aside (L.length + (Mem.vtxt ⟨nm, kd, tx, ls⟩).length ≤ 1099511627776) := hT
  clear hown hlc z4 hT
  obtain ⟨TX, hTX⟩ : ∃ TX, Mem.vtxt ⟨nm, kd, tx, ls⟩ = TX := ⟨_, rfl⟩
  rw [hTX] at HT ⊢
  have HTX : Aside (Mem.vtxt ⟨nm, kd, tx, ls⟩ = TX) := hTX
  clear hTX
  have HLL : Aside (L.length ≤ 1099511627776) := by have := HT.out; show L.length ≤ _; omega
  have hcs : kd = 0 ∨ kd = 1 ∨ kd = 2 ∨ kd = 3 ∨ kd = 4 ∨ kd = 5 ∨ 6 ≤ kd := by omega
  rcases hcs with k0 | k1 | k2 | k3 | k4 | k5 | k6
  · subst k0
    go_enter Tryz.func20, Tryz.ntmps20
    go_wp2_with fail
    refine (appendStringW tx v L _ (HO.out.alloc _) (by omega) HLL.out).mono ?_
    rintro e W1 ⟨v1, rfl, o1, g1⟩
    have O1 : Aside (Own v1 (L ++ enc tx.data.toList) W1) := o1
    have G1 : Aside (Gr v W v1 W1) := ((Gr.refl _ W).alloc _).trans g1
    clear o1 g1
    go_wp2_with fail
    go_ret
    exact ⟨_, rfl, by rw [← HTX.out]; exact O1.out, G1.out⟩
  · subst k1
    go_enter Tryz.func20, Tryz.ntmps20
    go_wp2_with (at_builtin; refine wpl_appS _ rfl _ _ rfl v L rfl (HO.out.alloc _) ⟨#[110, 117, 108, 108]⟩ rfl (by have := HLL.out; show _ + 4 ≤ _; omega) ?_)
    intro v1 W1 o1 g1
    have O1 : Aside (Own v1 (L ++ [110, 117, 108, 108]) W1) := o1
    have G1 : Aside (Gr v W v1 W1) := ((Gr.refl _ W).alloc _).trans g1
    clear o1 g1
    go_wp2_with fail
    go_ret
    exact ⟨_, rfl, by rw [← HTX.out]; exact O1.out, G1.out⟩
  · subst k2
    go_enter Tryz.func20, Tryz.ntmps20
    go_wp2_with (at_builtin; refine wpl_appS _ rfl _ _ rfl v L rfl (HO.out.alloc _) ⟨#[116, 114, 117, 101]⟩ rfl (by have := HLL.out; show _ + 4 ≤ _; omega) ?_)
    intro v1 W1 o1 g1
    have O1 : Aside (Own v1 (L ++ [116, 114, 117, 101]) W1) := o1
    have G1 : Aside (Gr v W v1 W1) := ((Gr.refl _ W).alloc _).trans g1
    clear o1 g1
    go_wp2_with fail
    go_ret
    exact ⟨_, rfl, by rw [← HTX.out]; exact O1.out, G1.out⟩
  · subst k3
    go_enter Tryz.func20, Tryz.ntmps20
    go_wp2_with (at_builtin; refine wpl_appS _ rfl _ _ rfl v L rfl (HO.out.alloc _) ⟨#[45, 49, 50, 46, 53, 101, 49]⟩ rfl (by have := HLL.out; show _ + 7 ≤ _; omega) ?_)
    intro v1 W1 o1 g1
    have O1 : Aside (Own v1 (L ++ [45, 49, 50, 46, 53, 101, 49]) W1) := o1
    have G1 : Aside (Gr v W v1 W1) := ((Gr.refl _ W).alloc _).trans g1
    clear o1 g1
    go_wp2_with fail
    go_ret
    exact ⟨_, rfl, by rw [← HTX.out]; exact O1.out, G1.out⟩
  · subst k4
    go_enter Tryz.func20, Tryz.ntmps20
    go_wp2_with fail
    refine (listW lao lc ls v L _ (HO.out.alloc _) (fun vx X hg => HLC.out vx X (((Gr.refl _ W).alloc _).trans hg)) z3 HS.out (by have := HT.out; rw [← HTX.out] at this; simp only [Mem.vtxt] at this; simp at this; omega)).mono ?_
    rintro e W1 ⟨v1, rfl, o1, g1⟩
    have O1 : Aside (Own v1 (L ++ 91 :: (jn [44] (encs ls) ++ [93])) W1) := o1
    have G1 : Aside (Gr v W v1 W1) := ((Gr.refl _ W).alloc _).trans g1
    clear o1 g1
    go_wp2_with fail
    go_ret
    exact ⟨_, rfl, by rw [← HTX.out]; exact O1.out, G1.out⟩
  · subst k5
    go_enter Tryz.func20, Tryz.ntmps20
    have hnews : NewsAt ((W.alloc (.cells #[.string nm, .int .u8 5, .string tx, .slice lao ls.length lc] 39)).alloc (.cells #[.int .u8 123, .int .u8 125] 5)) ⟨W.heap.size + 1, 0, none⟩ [123, 125] := by
      have := cells_new (W.alloc (.cells #[.string nm, .int .u8 5, .string tx, .slice lao ls.length lc] 39)) [123, 125] 5
      rw [show (W.alloc (.cells #[.string nm, .int .u8 5, .string tx, .slice lao ls.length lc] 39)).heap.size = W.heap.size + 1 by simp] at this
      exact this
    have HNW : Aside (NewsAt ((W.alloc (.cells #[.string nm, .int .u8 5, .string tx, .slice lao ls.length lc] 39)).alloc (.cells #[.int .u8 123, .int .u8 125] 5)) ⟨W.heap.size + 1, 0, none⟩ [123, 125]) := hnews
    clear hnews
    go_wp2_with (at_builtin; refine wpl_app _ rfl _ _ rfl v L rfl ((HO.out.alloc _).alloc _) ⟨W.heap.size + 1, 0, none⟩ 2 2 [123, 125] rfl rfl HNW.out (by have := HLL.out; omega) ?_)
    intro v1 W1 o1 g1 _
    have O1 : Aside (Own v1 (L ++ [123, 125]) W1) := o1
    have G1 : Aside (Gr v W v1 W1) := (((Gr.refl _ W).alloc _).alloc _).trans g1
    clear o1 g1
    go_wp2_with fail
    go_ret
    exact ⟨_, rfl, by rw [← HTX.out]; exact O1.out, G1.out⟩
  · have n0 : ((kd : Int) == 0) = false := by rw [beq_eq_false_iff_ne]; omega
    have n1 : ((kd : Int) == 1) = false := by rw [beq_eq_false_iff_ne]; omega
    have n2 : ((kd : Int) == 2) = false := by rw [beq_eq_false_iff_ne]; omega
    have n3 : ((kd : Int) == 3) = false := by rw [beq_eq_false_iff_ne]; omega
    have n4 : ((kd : Int) == 4) = false := by rw [beq_eq_false_iff_ne]; omega
    have n5 : ((kd : Int) == 5) = false := by rw [beq_eq_false_iff_ne]; omega
    have e6 : Mem.vtxt ⟨nm, kd, tx, ls⟩ = 91 :: (jn [44] (mixed (kd % (ls.length + 1)) (kd / 8 % 5) ls) ++ [93]) := by
      rw [Mem.vtxt, if_neg (by show ¬ kd = 0; omega), if_neg (by show ¬ kd = 1; omega), if_neg (by show ¬ kd = 2; omega), if_neg (by show ¬ kd = 3; omega), if_neg (by show ¬ kd = 4; omega), if_neg (by show ¬ kd = 5; omega)]
    have E6 : Aside (TX = 91 :: (jn [44] (mixed (kd % (ls.length + 1)) (kd / 8 % 5) ls) ++ [93])) := HTX.out.symm.trans e6
    clear e6
    go_enter Tryz.func20, Tryz.ntmps20
    go_wp2_with fail
    refine (mixedW lao lc kd hkd ls v L _ (HO.out.alloc _) (fun vx X hg => HLC.out vx X (((Gr.refl _ W).alloc _).trans hg)) z3 HS.out (by have := HT.out; rw [E6.out] at this; simp at this; omega)).mono ?_
    rintro e W1 ⟨v1, rfl, o1, g1⟩
    have O1 : Aside (Own v1 (L ++ TX) W1) := by show Own v1 (L ++ TX) W1; rw [E6.out]; exact o1
    have G1 : Aside (Gr v W v1 W1) := ((Gr.refl _ W).alloc _).trans g1
    clear o1 g1
    go_wp2_with fail
    go_ret
    exact ⟨_, rfl, O1.out, G1.out⟩

/-- The text of a member. -/
def Mem.mtx (m : Mem) : List UInt8 := enc m.name.data.toList ++ 58 :: m.vtxt
theorem gr_below {v : Value} {W W' : World} (h : Gr (.slice none 0 0) W v W') : Below W.heap.size W W' := ⟨h.os, h.tape, h.output, h.size, fun k hk => h.keep k hk (fun e => by cases e)⟩
/-- The members of a slice, cell by cell. -/
def MCs (ao : Option Addr) (ms : List Mem) (W : World) : Prop := ∀ (j : Nat) m, ms[j]? = some m → ∃ b o, ao = some ⟨b, o, none⟩ ∧ MC b (o + j * 4) m W
theorem MCs.below {ao : Option Addr} {ms : List Mem} {W W' : World} (h : MCs ao ms W) (hb : Below W.heap.size W W') : MCs ao ms W' := fun j m hj => by
  obtain ⟨b, o, h4, h5⟩ := h j m hj
  exact ⟨b, o, h4, h5.below hb⟩

set_option maxHeartbeats 4000000 in
theorem writeObjW (mv : Value) (ms : List Mem) (W : World) (hmv : MV mv ms W) (hn : ms.length ≤ 1048576) (hsm : ∀ m ∈ ms, m.small) (hT : (jn [44, 32] (ms.map Mem.mtx)).length + 4 ≤ 1099511627776) :
    Calls Tryz.prog 9 #[.slice none 0 0, mv] W fun e W' => ∃ v', e = .returned v' ∧ Own v' ([32] ++ (123 :: (jn [44, 32] (ms.map Mem.mtx) ++ [125]) ++ [10])) W' ∧ Below W.heap.size W W' := by
  obtain ⟨ao, c, rfl, _, hcs0⟩ := hmv
  have hcs : MCs ao ms W := hcs0
  have HCS : Aside (MCs ao ms W) := hcs
  have HSM : Aside (∀ m ∈ ms, m.small) := hsm
  have hlen : ∀ k, (jn [44, 32] ((ms.map Mem.mtx).take k)).length + 4 ≤ 1099511627776 := fun k => by have := jn_take [44, 32] (ms.map Mem.mtx) k; omega
  have HLEN : Aside (∀ k, (jn [44, 32] ((ms.map Mem.mtx).take k)).length + 4 ≤ 1099511627776) := hlen
  obtain ⟨n, hnn⟩ : ∃ n, ms.length = n := ⟨_, rfl⟩
  rw [hnn] at hn ⊢
  have HN : Aside (ms.length = n) := hnn
  clear hcs hcs0 hsm hT hlen hnn
  go_enter Tryz.func9, Tryz.ntmps9
  go_wp2_with (at_builtin; refine wpl_app _ rfl _ _ rfl (.slice none 0 0) [] rfl (own_nil _) ⟨W.heap.size, 0, none⟩ 2 2 [32, 123] rfl rfl (cells_new W [32, 123] 5) (by simp) ?_)
  intro v1 W1 o1 g1 _
  have O1 : Aside (Own v1 [32, 123] W1) := o1
  have G1 : Aside (Gr (.slice none 0 0) W v1 W1) := ((Gr.refl _ W).alloc _).trans g1
  clear o1 g1
  go_wp2_with fail
  go_loopg [0, 5] n (fun g s0 s5 wx => ∃ k : Nat, g + k = n ∧ s5 = .int .i64 k ∧ Own s0 ([32, 123] ++ jn [44, 32] ((ms.map Mem.mtx).take k)) wx ∧ Gr (.slice none 0 0) W s0 wx)
  case atStart => exact ⟨0, by omega, rfl, by simpa [jn] using O1.out, G1.out⟩
  case round =>
    obtain ⟨k, hk, rfl, ho, hg⟩ := hrel
    obtain ⟨T, hT⟩ : ∃ T, [32, 123] ++ jn [44, 32] ((ms.map Mem.mtx).take k) = T := ⟨_, rfl⟩
    rw [hT] at ho
    have HTT : Aside ([32, 123] ++ jn [44, 32] ((ms.map Mem.mtx).take k) = T) := hT
    have O2 : Aside (Own u0 T wr) := ho
    have G2 : Aside (Gr (.slice none 0 0) W u0 wr) := hg
    have HL2 : Aside (T.length + 2 ≤ 1099511627776) := by
      have := HLEN.out k
      show T.length + 2 ≤ _
      rw [← hT, List.length_append, List.length_cons, List.length_cons, List.length_nil]
      omega
    clear hT
    by_cases hlt : k < n
    · have h2 : (k : Int) < (n : Int) := by omega
      obtain ⟨m, hm, _⟩ := at_lt (l := ms) (k := k) (by rw [HN.out]; exact hlt)
      have HE : Aside ((ms.map Mem.mtx)[k]? = some (Mem.mtx m)) := by show _ = _; rw [List.getElem?_map, hm]; rfl
      have hsm := HSM.out m (List.mem_of_getElem? hm)
      have HSM2 : Aside m.small := hsm
      have hsz : m.name.size ≤ 1048576 := hsm.1
      have HMM : Aside (ms[k]? = some m) := hm
      have hLm : (jn [44, 32] ((ms.map Mem.mtx).take (k + 1))).length + 4 ≤ 1099511627776 := HLEN.out (k + 1)
      obtain ⟨b, o, rfl, mcw⟩ := HCS.out k m hm
      have hbl : b < W.heap.size := World.block_lt_of_cell? W _ mcw.c0
      have hkd : m.kind < 256 := mcw.hk
      obtain ⟨lv, cw3, lao, lc, rfl, _, lel⟩ := mcw.c3
      have LEL : Aside (LC lao m.list W) := lel
      have CW : Aside (∀ v' X, Gr (.slice none 0 0) W v' X → X.cell? ⟨b, o + k * 4, none⟩ = some (.string m.name) ∧ X.cell? ⟨b, o + k * 4 + 1, none⟩ = some (.int .u8 (m.kind : Int)) ∧ X.cell? ⟨b, o + k * 4 + 2, none⟩ = some (.string m.text) ∧ X.cell? ⟨b, o + k * 4 + 3, none⟩ = some (.slice lao m.list.length lc)) :=
        fun v' X hg => ⟨((gr_below hg).cell hbl).trans mcw.c0, ((gr_below hg).cell hbl).trans mcw.c1, ((gr_below hg).cell hbl).trans mcw.c2, ((gr_below hg).cell hbl).trans cw3⟩
      have HLC : Aside (∀ v' X, Gr (.slice none 0 0) W v' X → LC lao m.list X) := fun v' X hg j s hj => by
        obtain ⟨b2, o2, e2, x2⟩ := LEL.out j s hj
        exact ⟨b2, o2, e2, ((gr_below hg).cell (World.block_lt_of_cell? W _ x2)).trans x2⟩
      clear mcw cw3 lel hsm
      by_cases h0 : k = 0
      · subst h0
        have HJ : Aside (T ++ m.mtx = [32, 123] ++ jn [44, 32] ((ms.map Mem.mtx).take (0 + 1))) := by
          show _ = _
          rw [← HTT.out, jn_first HE.out]
          simp [jn]
        have HL3 : Aside (T.length + m.mtx.length ≤ 1099511627776) := by
          have := congrArg List.length HJ.out
          rw [List.length_append, List.length_append, List.length_cons, List.length_cons, List.length_nil] at this
          show _ ≤ _
          omega
        obtain ⟨c0, _, _, _⟩ := CW.out _ _ hg
        rw [Nat.zero_mul, Nat.add_zero] at c0
        clear hLm ho hg hm
        go_wp2_with fail
        refine (appendStringW m.name u0 T wr O2.out (by omega) (by have := HL2.out; omega)).mono ?_
        rintro e W3 ⟨v3, rfl, o3, g3⟩
        have O3 : Aside (Own v3 (T ++ enc m.name.data.toList) W3) := o3
        have G3 : Aside (Gr (.slice none 0 0) W v3 W3) := G2.out.trans g3
        clear o3 g3
        go_wp2_with (at_builtin; refine wpl_app _ rfl _ _ rfl v3 (T ++ enc m.name.data.toList) rfl (O3.out.alloc _) ⟨W3.heap.size, 0, none⟩ 1 1 [58] rfl rfl (cells_new W3 [58] 5) (by have := HL3.out; rw [Mem.mtx, List.length_append, List.length_cons] at this; rw [List.length_append]; omega) ?_)
        intro v4 W4 o4 g4 _
        have O4 : Aside (Own v4 (T ++ enc m.name.data.toList ++ [58]) W4) := by show Own _ _ _; simpa using o4
        have G4 : Aside (Gr (.slice none 0 0) W v4 W4) := (G3.out.alloc _).trans g4
        obtain ⟨d0, d1, d2, d3⟩ := CW.out _ _ G4.out
        rw [Nat.zero_mul, Nat.add_zero] at d0 d1 d2 d3
        clear o4 g4 c0
        go_wp2_with fail
        refine (valueW m hkd HSM2.out lao lc v4 _ W4 O4.out (fun vx X hg => HLC.out vx X (G4.out.trans hg)) (by have := HL3.out; rw [Mem.mtx, List.length_append, List.length_cons] at this; rw [List.length_append, List.length_append, List.length_cons, List.length_nil]; omega)).mono ?_
        rintro e W5 ⟨v5, rfl, o5, g5⟩
        have O5 : Aside (Own v5 (T ++ enc m.name.data.toList ++ [58] ++ m.vtxt) W5) := o5
        have G5 : Aside (Gr (.slice none 0 0) W v5 W5) := G4.out.trans g5
        clear o5 g5 d0 d1 d2 d3
        go_wp2_with fail
        go_roundg (gk - 1)
        case measure => omega
        case rel =>
          refine ⟨0 + 1, by omega, rfl, ?_, G5.out⟩
          rw [← HJ.out]
          have h7 := O5.out
          rw [Mem.mtx]
          simpa using h7
      · have h0' : (0 : Int) < (k : Int) := by omega
        have HJ : Aside (T ++ [44, 32] ++ m.mtx = [32, 123] ++ jn [44, 32] ((ms.map Mem.mtx).take (k + 1))) := by
          show _ = _
          rw [← HTT.out, jn_step HE.out (by omega)]
          simp
        have HL3 : Aside (T.length + 2 + m.mtx.length ≤ 1099511627776) := by
          have := congrArg List.length HJ.out
          rw [List.length_append, List.length_append, List.length_append, List.length_cons, List.length_cons, List.length_cons, List.length_cons, List.length_nil] at this
          show _ ≤ _
          omega
        clear hLm ho hg hm
        go_wp2_with (at_builtin; refine wpl_app _ rfl _ _ rfl u0 T rfl (O2.out.alloc _) ⟨wr.heap.size, 0, none⟩ 2 2 [44, 32] rfl rfl (cells_new wr [44, 32] 5) (by have := HL2.out; omega) ?_)
        intro v2 W2 o2 g2 _
        have OO2 : Aside (Own v2 (T ++ [44, 32]) W2) := o2
        have GG2 : Aside (Gr (.slice none 0 0) W v2 W2) := (G2.out.alloc _).trans g2
        obtain ⟨c0, _, _, _⟩ := CW.out _ _ GG2.out
        clear o2 g2
        obtain ⟨T2, hT2⟩ : ∃ T2, T ++ [44, 32] = T2 := ⟨_, rfl⟩
        rw [hT2] at OO2 HJ
        have HL4 : Aside (T2.length + m.mtx.length ≤ 1099511627776) := by
          have := HL3.out
          show _ ≤ _
          rw [← hT2, List.length_append, List.length_cons, List.length_cons, List.length_nil]
          omega
        clear hT2
        go_wp2_with fail
        refine (appendStringW m.name v2 T2 W2 OO2.out (by omega) (by have := HL4.out; omega)).mono ?_
        rintro e W3 ⟨v3, rfl, o3, g3⟩
        have O3 : Aside (Own v3 (T2 ++ enc m.name.data.toList) W3) := o3
        have G3 : Aside (Gr (.slice none 0 0) W v3 W3) := GG2.out.trans g3
        clear o3 g3
        go_wp2_with (at_builtin; refine wpl_app _ rfl _ _ rfl v3 (T2 ++ enc m.name.data.toList) rfl (O3.out.alloc _) ⟨W3.heap.size, 0, none⟩ 1 1 [58] rfl rfl (cells_new W3 [58] 5) (by have := HL4.out; rw [Mem.mtx, List.length_append, List.length_cons] at this; rw [List.length_append]; omega) ?_)
        intro v4 W4 o4 g4 _
        have O4 : Aside (Own v4 (T2 ++ enc m.name.data.toList ++ [58]) W4) := by show Own _ _ _; simpa using o4
        have G4 : Aside (Gr (.slice none 0 0) W v4 W4) := (G3.out.alloc _).trans g4
        obtain ⟨d0, d1, d2, d3⟩ := CW.out _ _ G4.out
        clear o4 g4 c0
        go_wp2_with fail
        refine (valueW m hkd HSM2.out lao lc v4 _ W4 O4.out (fun vx X hg => HLC.out vx X (G4.out.trans hg)) (by have := HL4.out; rw [Mem.mtx, List.length_append, List.length_cons] at this; rw [List.length_append, List.length_append, List.length_cons, List.length_nil]; omega)).mono ?_
        rintro e W5 ⟨v5, rfl, o5, g5⟩
        have O5 : Aside (Own v5 (T2 ++ enc m.name.data.toList ++ [58] ++ m.vtxt) W5) := o5
        have G5 : Aside (Gr (.slice none 0 0) W v5 W5) := G4.out.trans g5
        clear o5 g5 d0 d1 d2 d3
        go_wp2_with fail
        go_roundg (gk - 1)
        case measure => omega
        case rel =>
          refine ⟨k + 1, by omega, rfl, ?_, G5.out⟩
          rw [← HJ.out]
          have h7 := O5.out
          rw [Mem.mtx]
          simpa using h7
    · have h2 : decide ((k : Int) < (n : Int)) = false := by simp; omega
      have HJ : Aside (jn [44, 32] ((ms.map Mem.mtx).take k) = jn [44, 32] (ms.map Mem.mtx)) := by
        show _ = _
        rw [List.take_of_length_le (by rw [List.length_map, HN.out]; omega)]
      clear ho hg
      go_wp2_with (at_builtin; refine wpl_app _ rfl _ _ rfl u0 T rfl (O2.out.alloc _) ⟨wr.heap.size, 0, none⟩ 2 2 [125, 10] rfl rfl (cells_new wr [125, 10] 5) (by have := HL2.out; omega) ?_)
      intro v3 W3 o3 g3 _
      have O3 : Aside (Own v3 (T ++ [125, 10]) W3) := o3
      have G3 : Aside (Gr (.slice none 0 0) W v3 W3) := (G2.out.alloc _).trans g3
      clear o3 g3
      go_wp2_with fail
      go_ret
      refine ⟨_, rfl, ?_, gr_below G3.out⟩
      have h7 := O3.out
      rw [← HTT.out, HJ.out] at h7
      simpa using h7
end Go.Proofs.Qxb6604447aGreatFmt
