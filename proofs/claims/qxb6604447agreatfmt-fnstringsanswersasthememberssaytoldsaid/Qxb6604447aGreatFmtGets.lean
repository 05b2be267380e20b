/-
  The walk of Object.Strings.
-/
import Derived.Test.Qxb6604447aGreatFmtGet
namespace Go.Proofs.Qxb6604447aGreatFmt
set_option maxRecDepth 1000000
open Go.RowKit Go.Lib

/-- What a call of Strings leaves. -/
def SSPost (ms : List Mb) (k : List UInt8) (W : World) (e : Ending) (W' : World) : Prop :=
  Below W.heap.size W W' ∧
  ((findM k ms = none ∧ e = .returned (.tuple #[.slice none 0 0, .bool false, .nilIface])) ∨
   (∃ (m : Mb) (ss : List (List UInt8)), findM k ms = some m ∧ m.el.sh = .arr (ss.map some) ∧ ∃ b cur, e = .returned (.tuple #[.slice (some ⟨b, 0, none⟩) ss.length ss.length, .bool true, .nilIface]) ∧ W'.heap[b]? = some (.cells cur 9 (0, 0)) ∧ cur.toList = ss.map fun t => Value.string ⟨t.toArray⟩) ∨
   (∃ m x, findM k ms = some m ∧ (∀ ss : List (List UInt8), m.el.sh ≠ .arr (ss.map some)) ∧ e = .returned (.tuple #[.slice none 0 0, .bool true, .iface 62 x])))

theorem info9 : ∃ i, Tryz.prog.info? 9 = some i ∧ i.zero = some (.string ⟨#[]⟩) ∧ i.size = 1 ∧ i.bytes = 16 := ⟨_, rfl, rfl, rfl, rfl⟩

/-- The loop's invariant: k strings are laid. -/
def SSI (os : List (Option (List UInt8))) (n B : Nat) (W : World) (m : Nat) (s4 s36 : Value) (wx : World) : Prop :=
  s4 = .slice (some ⟨B, 0, none⟩) n n ∧ ∃ (k : Nat) (ss : List (List UInt8)) (cur : Array Value), m + k = n ∧ s36 = .int .i64 (k : Int) ∧ os.take k = ss.map some ∧ ss.length = k ∧ wx.heap[B]? = some (.cells cur 9 (0, 0)) ∧ cur.size = n ∧ cur.toList.take k = ss.map (fun t => Value.string ⟨t.toArray⟩) ∧ Below B W wx

theorem set_take {cur : Array Value} {k : Nat} {x : Value} {l : List Value} (hk : k < cur.size) (h : cur.toList.take k = l) : (cur.setIfInBounds k x).toList.take (k + 1) = l ++ [x] := by
  rw [Array.toList_setIfInBounds, List.take_add_one, List.take_set_of_le (Nat.le_refl _), h, List.getElem?_set_self (by simpa using hk)]
  rfl

set_option maxHeartbeats 4000000 in
theorem stringsGet (F : Go.Stop.Interp) (ms : List Mb) (k : List UInt8) (M : Nat) (kvs : List (List UInt8 × Value)) (W : World) (hm : MapAt M kvs W) (he : Ent (fun sh v => Kept sh v W) ms kvs) (hF : F.answers W.tape) (hsz : ∀ m ∈ ms, ∀ os, m.el.sh = .arr os → os.length ≤ 4194304) :
    Calls Tryz.prog 16 #[.map (some M), .string ⟨k.toArray⟩] W (SSPost ms k W) := by
  have HM : Aside (MapAt M kvs W) := hm
  have HF : Aside (F.answers W.tape) := hF
  rcases he.look k with ⟨hl, hf⟩ | ⟨v, m, hl, hf, hk⟩
  · have HL : Aside (kvs.lookup k = none) := hl
    have HFD : Aside (findM k ms = none) := hf
    clear hm he hl hf hF hsz
    go_enter Tryz.func16, Tryz.ntmps16
    go_wp2_with (at_lookup; refine wpl_look _ rfl _ _ 28 rfl Tryz.underlying28 M kvs rfl HM.out k rfl .nilIface false (by rw [HL.out]; rfl) (by rw [HL.out]; rfl) ?_)
    go_ret3
    exact ⟨Below.refl _ _, Or.inl ⟨HFD.out, rfl⟩⟩
  · have HL : Aside (kvs.lookup k = some v) := hl
    have HFD : Aside (findM k ms = some m) := hf
    have hsz1 := hsz m (List.mem_of_find?_eq_some hf)
    obtain ⟨sh, hsh⟩ : ∃ sh, m.el.sh = sh := ⟨_, rfl⟩
    rw [hsh] at hk
    have HSH : Aside (m.el.sh = sh) := hsh
    clear hm he hl hf hF hsz
    have t1 := ta56_yes
    have t2 := ta56_nil
    have t3 := ta56_4
    have t4 := ta56_74
    have t5 := ta56_9
    have t6 := ta56_27
    cases sh with
    | str t =>
      clear hsz1 hsh
      obtain rfl := hk
      · go_enter Tryz.func16, Tryz.ntmps16
        go_wp2_with (at_lookup; refine wpl_look _ rfl _ _ 28 rfl Tryz.underlying28 M kvs rfl HM.out k rfl (.iface 9 (.string ⟨t.toArray⟩)) true (by rw [HL.out]; rfl) (by rw [HL.out]; rfl) ?_)
        refine (errorf_noarr F ⟨k.toArray⟩ W.heap.size _ (by exact HF.out) (by exact cell_one_new W _ 20 0 _ rfl)).mono ?_
        rintro e W2 ⟨⟨x, rfl⟩, b2⟩
        have B2 : Aside (Below W.heap.size W W2) := Below.trans ((Below.refl _ _).alloc (Nat.le_refl _) _) ⟨b2.os, b2.tape, b2.output, b2.size, fun i hi => b2.block i (by simp; omega)⟩
        clear b2
        go_wp2
        go_ret3
        exact ⟨B2.out, Or.inr (Or.inr ⟨m, x, HFD.out, (fun t e => by rw [HSH.out] at e; cases e), rfl⟩)⟩
    | oth =>
      clear hsz1 hsh
      rcases hk with rfl | ⟨y, rfl⟩ | ⟨y, rfl⟩ | ⟨y, rfl⟩
      · go_enter Tryz.func16, Tryz.ntmps16
        go_wp2_with (at_lookup; refine wpl_look _ rfl _ _ 28 rfl Tryz.underlying28 M kvs rfl HM.out k rfl (.nilIface) true (by rw [HL.out]; rfl) (by rw [HL.out]; rfl) ?_)
        refine (errorf_noarr F ⟨k.toArray⟩ W.heap.size _ (by exact HF.out) (by exact cell_one_new W _ 20 0 _ rfl)).mono ?_
        rintro e W2 ⟨⟨x, rfl⟩, b2⟩
        have B2 : Aside (Below W.heap.size W W2) := Below.trans ((Below.refl _ _).alloc (Nat.le_refl _) _) ⟨b2.os, b2.tape, b2.output, b2.size, fun i hi => b2.block i (by simp; omega)⟩
        clear b2
        go_wp2
        go_ret3
        exact ⟨B2.out, Or.inr (Or.inr ⟨m, x, HFD.out, (fun t e => by rw [HSH.out] at e; cases e), rfl⟩)⟩
      · go_enter Tryz.func16, Tryz.ntmps16
        go_wp2_with (at_lookup; refine wpl_look _ rfl _ _ 28 rfl Tryz.underlying28 M kvs rfl HM.out k rfl (.iface 4 y) true (by rw [HL.out]; rfl) (by rw [HL.out]; rfl) ?_)
        refine (errorf_noarr F ⟨k.toArray⟩ W.heap.size _ (by exact HF.out) (by exact cell_one_new W _ 20 0 _ rfl)).mono ?_
        rintro e W2 ⟨⟨x, rfl⟩, b2⟩
        have B2 : Aside (Below W.heap.size W W2) := Below.trans ((Below.refl _ _).alloc (Nat.le_refl _) _) ⟨b2.os, b2.tape, b2.output, b2.size, fun i hi => b2.block i (by simp; omega)⟩
        clear b2
        go_wp2
        go_ret3
        exact ⟨B2.out, Or.inr (Or.inr ⟨m, x, HFD.out, (fun t e => by rw [HSH.out] at e; cases e), rfl⟩)⟩
      · go_enter Tryz.func16, Tryz.ntmps16
        go_wp2_with (at_lookup; refine wpl_look _ rfl _ _ 28 rfl Tryz.underlying28 M kvs rfl HM.out k rfl (.iface 74 y) true (by rw [HL.out]; rfl) (by rw [HL.out]; rfl) ?_)
        refine (errorf_noarr F ⟨k.toArray⟩ W.heap.size _ (by exact HF.out) (by exact cell_one_new W _ 20 0 _ rfl)).mono ?_
        rintro e W2 ⟨⟨x, rfl⟩, b2⟩
        have B2 : Aside (Below W.heap.size W W2) := Below.trans ((Below.refl _ _).alloc (Nat.le_refl _) _) ⟨b2.os, b2.tape, b2.output, b2.size, fun i hi => b2.block i (by simp; omega)⟩
        clear b2
        go_wp2
        go_ret3
        exact ⟨B2.out, Or.inr (Or.inr ⟨m, x, HFD.out, (fun t e => by rw [HSH.out] at e; cases e), rfl⟩)⟩
      · go_enter Tryz.func16, Tryz.ntmps16
        go_wp2_with (at_lookup; refine wpl_look _ rfl _ _ 28 rfl Tryz.underlying28 M kvs rfl HM.out k rfl (.iface 27 y) true (by rw [HL.out]; rfl) (by rw [HL.out]; rfl) ?_)
        refine (errorf_noarr F ⟨k.toArray⟩ W.heap.size _ (by exact HF.out) (by exact cell_one_new W _ 20 0 _ rfl)).mono ?_
        rintro e W2 ⟨⟨x, rfl⟩, b2⟩
        have B2 : Aside (Below W.heap.size W W2) := Below.trans ((Below.refl _ _).alloc (Nat.le_refl _) _) ⟨b2.os, b2.tape, b2.output, b2.size, fun i hi => b2.block i (by simp; omega)⟩
        clear b2
        go_wp2
        go_ret3
        exact ⟨B2.out, Or.inr (Or.inr ⟨m, x, HFD.out, (fun t e => by rw [HSH.out] at e; cases e), rfl⟩)⟩
    | arr os =>
      obtain ⟨b, n, c, vs, rfl, hown, hmap, hgood⟩ := hk
      obtain ⟨lcur, hlc, rfl, hns, htk⟩ := hown.cellsAt
      have hol : os.length = vs.length := by rw [← hmap, List.length_map]
      have hn4 : vs.length ≤ 4194304 := by rw [← hol]; exact hsz1 os hsh
      have HLC : Aside (W.heap[b]? = some (.cells lcur 20 (0, 0))) := hlc
      have HTK : Aside (lcur.toList.take vs.length = vs) := htk
      have HMAP : Aside (vs.map cellOf = os) := hmap
      have HGD : Aside (∀ u ∈ vs, Good u) := hgood
      have hbl : b < W.heap.size := (Array.getElem?_eq_some_iff.1 hlc).1
      obtain ⟨i9, hi9, hz9, hs9, hb9⟩ := info9
      obtain ⟨n, hnd⟩ : ∃ n, vs.length = n := ⟨_, rfl⟩
      rw [hnd] at hn4 hns HTK hol
      rw [hnd] at HL
      have HND : Aside (vs.length = n) := hnd
      clear hsz1 hown hlc htk hmap hgood hsh hnd
      go_enter Tryz.func16, Tryz.ntmps16
      go_wp2_with (first
        | (at_lookup; refine wpl_look _ rfl _ _ 28 rfl Tryz.underlying28 M kvs rfl HM.out k rfl (.iface 56 (.slice (some ⟨b, 0, none⟩) n c)) true (by rw [HL.out]; rfl) (by rw [HL.out]; rfl) ?_)
        | (at_make; refine wpList_make_full _ rfl _ _ 37 rfl 0 9 i9 (.string ⟨#[]⟩) 1 Tryz.underlying37 hi9 hz9 hs9 .i64 .i64 _ _ n rfl rfl rfl rfl (by rw [hb9]; omega) (by unfold maxLen; omega) (Nat.zero_le _) ?_))
      intro W0 own0 grow0
      have HB0 : Aside (Below W.heap.size W W0) := ⟨grow0.os, grow0.tape, grow0.output, grow0.size, fun i hi => grow0.block i hi (by simp)⟩
      have HC0 : Aside (∃ cur, W0.heap[W.heap.size]? = some (.cells cur 9 (0, 0)) ∧ cur.size = n) := by
        rcases own0.2 with ⟨h0, _⟩ | ⟨g', cap', cur, hv, _, hg, _, _, hs, _⟩
        · cases h0
        · cases hv
          exact ⟨cur, hg, by omega⟩
      clear own0 grow0
      go_wp2_with fail
      go_loopg [4, 36] n (SSI os n W.heap.size W)
      case atStart =>
        obtain ⟨cur, hg, hs⟩ := HC0.out
        exact ⟨rfl, 0, [], cur, rfl, rfl, rfl, rfl, hg, hs, rfl, HB0.out⟩
      case round =>
        obtain ⟨rfl, k', ss, cur, hmk, rfl, hot, hsl, hg, hcs, hct, hbel⟩ := hrel
        have HOT : Aside (os.take k' = ss.map some) := hot
        have HSL : Aside (ss.length = k') := hsl
        have HG : Aside (wr.heap[W.heap.size]? = some (.cells cur 9 (0, 0))) := hg
        have HCT : Aside (cur.toList.take k' = ss.map fun t => Value.string ⟨t.toArray⟩) := hct
        have HBL : Aside (Below W.heap.size W wr) := hbel
        have HCS : Aside (cur.size = n) := hcs
        have HOL : Aside (os.length = n) := hol
        by_cases hkn : k' < n
        · have hkn' : (k' : Int) < (n : Int) := by omega
          obtain ⟨v, hv⟩ : ∃ v, vs[k']? = some v := ⟨_, List.getElem?_eq_getElem (by rw [HND.out]; exact hkn)⟩
          have hcl : lcur[k']? = some v := by
            have : (lcur.toList.take n)[k']? = some v := by rw [HTK.out]; exact hv
            rw [List.getElem?_take_of_lt hkn] at this
            simpa using this
          have cl : wr.cell? ⟨b, k', none⟩ = some v := by
            rw [World.cell?_of_block (w := W) (a := ⟨b, k', none⟩) (HBL.out.block b hbl), cell_of_heap HLC.out]
            exact hcl
          have cB : wr.cell? ⟨W.heap.size, k', none⟩ = some (cur[k']'(by omega)) := by
            rw [cell_of_heap HG.out]
            exact Array.getElem?_eq_getElem _
          have fB : wr.frozen? ⟨W.heap.size, k', none⟩ = false := by simp [World.frozen?, HG.out]
          have HGV : Aside (Good v) := HGD.out v (List.mem_of_getElem? hv)
          have HCV : Aside (os[k']? = some (cellOf v)) := by
            show _ = _
            rw [← HMAP.out, List.getElem?_map, hv]; rfl
          have HFW : Aside (F.answers wr.tape) := by show F.answers wr.tape; rw [HBL.out.tape]; exact HF.out
          have hsz1 := HBL.out.size
          have hszB : W.heap.size < wr.heap.size := (Array.getElem?_eq_some_iff.1 hg).1
          have HBA : Aside (Below W.heap.size W ((wr.setCell ⟨W.heap.size, k', none⟩ (.string ⟨#[]⟩)).alloc (.cells #[.iface 9 (.string ⟨k.toArray⟩)] 20))) := by
            refine Below.alloc ?_ (Nat.le_of_lt (by simpa using hszB)) _
            exact ⟨HBL.out.os, HBL.out.tape, HBL.out.output, by simpa using HBL.out.size, fun i hi => (Below.heap_setCell _ _ _ _ (by exact Nat.ne_of_lt hi)).trans (HBL.out.block i hi)⟩
          have HCN : Aside (((wr.setCell ⟨W.heap.size, k', none⟩ (.string ⟨#[]⟩)).alloc (.cells #[.iface 9 (.string ⟨k.toArray⟩)] 20)).cell? ⟨wr.heap.size, 0, none⟩ = some (.iface 9 (.string ⟨k.toArray⟩))) := by
            have := cell_one_new (wr.setCell ⟨W.heap.size, k', none⟩ (.string ⟨#[]⟩)) (.iface 9 (.string ⟨k.toArray⟩)) 20 0 _ rfl
            simp only [World.size_setCell] at this
            exact this
          have HOK : Aside (cellOf v = none → os[k']? = some none) := fun e => by rw [HCV.out, e]
          clear hot hg hct hbel hcl hv
          have t1 := ta9_yes
          have t2 := ta9_nil
          have t3 := ta9_4
          have t4 := ta9_74
          have t5 := ta9_56
          have t6 := ta9_27
          rcases HGV.out with ⟨t, rfl⟩ | rfl | ⟨y, rfl⟩ | ⟨y, rfl⟩ | ⟨y, rfl⟩ | ⟨y, rfl⟩
          · go_wp2
            go_roundg (gk - 1)
            case measure => omega
            case rel =>
              refine ⟨rfl, k' + 1, ss ++ [t], cur.setIfInBounds k' (.string ⟨t.toArray⟩), by omega, rfl, ?_, by simp [HSL.out], heap_setCell_at HG.out _, by simp [HCS.out], ?_, ?_⟩
              · rw [List.take_add_one, HOT.out, HCV.out]; simp [cellOf]
              · rw [set_take (by rw [HCS.out]; exact hkn) HCT.out]; simp
              · exact ⟨HBL.out.os, HBL.out.tape, HBL.out.output, by simpa using HBL.out.size, fun i hi => (Below.heap_setCell _ _ _ _ (by exact Nat.ne_of_lt hi)).trans (HBL.out.block i hi)⟩
          · go_wp2_with fail
            refine (errorf_holds F ⟨k.toArray⟩ wr.heap.size _ (by exact HFW.out) (by exact HCN.out)).mono ?_
            rintro e W2 ⟨⟨x, rfl⟩, b2⟩
            have B2 : Aside (Below W.heap.size W W2) := Below.trans HBA.out ⟨b2.os, b2.tape, b2.output, b2.size, fun i hi => b2.block i (by simp; omega)⟩
            clear b2
            go_wp2
            go_ret3
            refine ⟨B2.out, Or.inr (Or.inr ⟨m, x, HFD.out, (fun ss2 e2 => ?_), rfl⟩)⟩
            rw [HSH.out] at e2
            have e3 : os = ss2.map some := Sh.arr.inj e2
            have e4 : os[k']? = some none := HOK.out rfl
            rw [e3, List.getElem?_map] at e4
            cases h5 : ss2[k']? <;> rw [h5] at e4 <;> cases e4
          · go_wp2_with fail
            refine (errorf_holds F ⟨k.toArray⟩ wr.heap.size _ (by exact HFW.out) (by exact HCN.out)).mono ?_
            rintro e W2 ⟨⟨x, rfl⟩, b2⟩
            have B2 : Aside (Below W.heap.size W W2) := Below.trans HBA.out ⟨b2.os, b2.tape, b2.output, b2.size, fun i hi => b2.block i (by simp; omega)⟩
            clear b2
            go_wp2
            go_ret3
            refine ⟨B2.out, Or.inr (Or.inr ⟨m, x, HFD.out, (fun ss2 e2 => ?_), rfl⟩)⟩
            rw [HSH.out] at e2
            have e3 : os = ss2.map some := Sh.arr.inj e2
            have e4 : os[k']? = some none := HOK.out rfl
            rw [e3, List.getElem?_map] at e4
            cases h5 : ss2[k']? <;> rw [h5] at e4 <;> cases e4
          · go_wp2_with fail
            refine (errorf_holds F ⟨k.toArray⟩ wr.heap.size _ (by exact HFW.out) (by exact HCN.out)).mono ?_
            rintro e W2 ⟨⟨x, rfl⟩, b2⟩
            have B2 : Aside (Below W.heap.size W W2) := Below.trans HBA.out ⟨b2.os, b2.tape, b2.output, b2.size, fun i hi => b2.block i (by simp; omega)⟩
            clear b2
            go_wp2
            go_ret3
            refine ⟨B2.out, Or.inr (Or.inr ⟨m, x, HFD.out, (fun ss2 e2 => ?_), rfl⟩)⟩
            rw [HSH.out] at e2
            have e3 : os = ss2.map some := Sh.arr.inj e2
            have e4 : os[k']? = some none := HOK.out rfl
            rw [e3, List.getElem?_map] at e4
            cases h5 : ss2[k']? <;> rw [h5] at e4 <;> cases e4
          · go_wp2_with fail
            refine (errorf_holds F ⟨k.toArray⟩ wr.heap.size _ (by exact HFW.out) (by exact HCN.out)).mono ?_
            rintro e W2 ⟨⟨x, rfl⟩, b2⟩
            have B2 : Aside (Below W.heap.size W W2) := Below.trans HBA.out ⟨b2.os, b2.tape, b2.output, b2.size, fun i hi => b2.block i (by simp; omega)⟩
            clear b2
            go_wp2
            go_ret3
            refine ⟨B2.out, Or.inr (Or.inr ⟨m, x, HFD.out, (fun ss2 e2 => ?_), rfl⟩)⟩
            rw [HSH.out] at e2
            have e3 : os = ss2.map some := Sh.arr.inj e2
            have e4 : os[k']? = some none := HOK.out rfl
            rw [e3, List.getElem?_map] at e4
            cases h5 : ss2[k']? <;> rw [h5] at e4 <;> cases e4
          · go_wp2_with fail
            refine (errorf_holds F ⟨k.toArray⟩ wr.heap.size _ (by exact HFW.out) (by exact HCN.out)).mono ?_
            rintro e W2 ⟨⟨x, rfl⟩, b2⟩
            have B2 : Aside (Below W.heap.size W W2) := Below.trans HBA.out ⟨b2.os, b2.tape, b2.output, b2.size, fun i hi => b2.block i (by simp; omega)⟩
            clear b2
            go_wp2
            go_ret3
            refine ⟨B2.out, Or.inr (Or.inr ⟨m, x, HFD.out, (fun ss2 e2 => ?_), rfl⟩)⟩
            rw [HSH.out] at e2
            have e3 : os = ss2.map some := Sh.arr.inj e2
            have e4 : os[k']? = some none := HOK.out rfl
            rw [e3, List.getElem?_map] at e4
            cases h5 : ss2[k']? <;> rw [h5] at e4 <;> cases e4
        · have hkn' : ¬ (k' : Int) < (n : Int) := by omega
          have hke : k' = n := by omega
          clear hot hg hct hbel
          go_wp2
          go_ret3
          have hn : ss.length = n := by rw [HSL.out]; exact hke
          refine ⟨HBL.out, Or.inr (Or.inl ⟨m, ss, HFD.out, ?_, W.heap.size, cur, ?_, HG.out, ?_⟩)⟩
          · rw [HSH.out, ← HOT.out, hke, ← HOL.out, List.take_length]
          · rw [hn]; rfl
          · have := HCT.out
            rw [hke, ← HCS.out] at this
            rw [← this, List.take_of_length_le (by simp)]
end Go.Proofs.Qxb6604447aGreatFmt
