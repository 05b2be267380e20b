/-
  The walk of FnStringAndStringsAgreeOnOneString: it answers true.
-/
import Derived.Test.Qxb6604447aGreatFmtLawC
namespace Go.Proofs.Qxb6604447aGreatFmt
set_option maxRecDepth 1000000
open Go.RowKit Go.Lib

def elS (s : ByteArray) : El := ⟨enc s.data.toList, valid s.data.toList, .str s.data.toList⟩
def ms1 (n s : ByteArray) : List Mb := [⟨n.data.toList, elS s⟩]
def elA (s : ByteArray) : El := ⟨arrTxt [elS s], oks [elS s], .arr [some s.data.toList]⟩
def ms2 (n s : ByteArray) : List Mb := [⟨n.data.toList, elA s⟩]
theorem txt1 (n s : ByteArray) : [] ++ (objTxt (ms1 n s) ++ []) = [123] ++ enc n.data.toList ++ [58] ++ enc s.data.toList ++ [125] := by
  simp [objTxt, ms1, joinM, mtxt, elS]
theorem txt2 (n s : ByteArray) : [] ++ (objTxt (ms2 n s) ++ []) = [123] ++ enc n.data.toList ++ [58, 91] ++ enc s.data.toList ++ [93, 125] := by
  simp [objTxt, ms2, joinM, mtxt, elA, elS, arrTxt, joinE]
theorem ok1 (n s : ByteArray) : okM [] (ms1 n s) = (valid n.data.toList && valid s.data.toList) := by
  simp [okM, ms1, elS]
theorem ok2 (n s : ByteArray) : okM [] (ms2 n s) = (valid n.data.toList && valid s.data.toList) := by
  simp [okM, ms2, elA, elS, oks]
theorem len_list (s : ByteArray) : s.data.toList.length = s.size := by
  show _ = s.data.size
  simp
theorem vc1 (F : Go.Stop.Interp) (n s : ByteArray) (hs : s.size ≤ 1048576) : ∀ m ∈ ms1 n s, VC F 1 m.el.txt m.el.ok m.el.sh := by
  intro m hm
  rw [ms1, List.mem_singleton] at hm
  subst hm
  exact valStr F 1 s.data.toList (by rw [len_list]; exact hs)
theorem vc2 (F : Go.Stop.Interp) (n s : ByteArray) (hs : s.size ≤ 1048576) : ∀ m ∈ ms2 n s, VC F 1 m.el.txt m.el.ok m.el.sh := by
  intro m hm
  rw [ms2, List.mem_singleton] at hm
  subst hm
  refine valArr F 1 [elS s] (by omega) (by simp) (fun e he => ?_) (fun e he => ?_)
  · rw [List.mem_singleton] at he
    subst he
    exact valStr F 2 s.data.toList (by rw [len_list]; exact hs)
  · rw [List.mem_singleton] at he
    subst he
    exact ⟨34, _, rfl, rfl, by decide⟩
theorem f1 (n s : ByteArray) : findM n.data.toList (ms1 n s) = some ⟨n.data.toList, elS s⟩ := by simp [findM, ms1]
theorem f2 (n s : ByteArray) : findM n.data.toList (ms2 n s) = some ⟨n.data.toList, elA s⟩ := by simp [findM, ms2]
theorem ba_lists {a b : ByteArray} (h : a ≠ b) : ¬ a.data.toList = b.data.toList := fun e => h (by rw [← ba_eta a, e, ba_eta b])
theorem f1n (n s o : ByteArray) (h : o ≠ n) : findM o.data.toList (ms1 n s) = none := by
  have := ba_lists h
  simp only [findM, ms1, List.find?_cons, List.find?_nil, beq_eq_false_iff_ne.2 this]
theorem f2n (n s o : ByteArray) (h : o ≠ n) : findM o.data.toList (ms2 n s) = none := by
  have := ba_lists h
  simp only [findM, ms2, List.find?_cons, List.find?_nil, beq_eq_false_iff_ne.2 this]
theorem z1 (n s : ByteArray) : ∀ m ∈ ms1 n s, ∀ os, m.el.sh = .arr os → os.length ≤ 4194304 := by
  intro m hm os h
  rw [ms1, List.mem_singleton] at hm
  subst hm; cases h
theorem z2 (n s : ByteArray) : ∀ m ∈ ms2 n s, ∀ os, m.el.sh = .arr os → os.length ≤ 4194304 := by
  intro m hm os h
  rw [ms2, List.mem_singleton] at hm
  subst hm; cases h; simp
theorem enc_len (t : List UInt8) : (enc t).length ≤ 6 * t.length + 2 := by
  have := encB_len t
  simp only [enc, List.length_cons, List.length_append, List.length_nil]
  omega

theorem Gr.toBelow {v : Value} {W W' : World} (h : Gr (.slice none 0 0) W v W') : Below W.heap.size W W' := ⟨h.os, h.tape, h.output, h.size, fun k hk => h.keep k hk (fun e => by cases e)⟩
theorem Below.step {A B C : World} (h : Below A.heap.size A B) (k : Below B.heap.size B C) : Below A.heap.size A C := h.trans ⟨k.os, k.tape, k.output, k.size, fun i hi => k.block i (Nat.lt_of_lt_of_le hi h.size)⟩
theorem tabs_below {W W' : World} (h : Tb W) (b : Below W.heap.size W W') : Tb W' := by
  have h2 := h.nine
  exact h.keep fun k hk => b.block k (by omega)
theorem ans_below {F : Go.Stop.Interp} {W W' : World} (h : F.answers W.tape) (b : Below W.heap.size W W') : F.answers W'.tape := by rw [b.tape]; exact h
theorem Own.below {v : Value} {bs : List UInt8} {W W' : World} (h : Own v bs W) (b : Below W.heap.size W W') : Own v bs W' := h.keep fun k hk => b.block k (h.lt hk)
/-- Parse, on a row of the call's own. -/
theorem parseOwn (F : Go.Stop.Interp) (ms : List Mb) (hv : ∀ m ∈ ms, VC F 1 m.el.txt m.el.ok m.el.sh) (hn : ∀ m ∈ ms, m.name.length ≤ 1048576) (sp1 sp2 : List UInt8) (h1 : sp1 = [] ∨ sp1 = [32]) (h2 : sp2 = [] ∨ sp2 = [10])
    (v : Value) (W : World) (L : List UInt8) (hL : sp1 ++ (objTxt ms ++ sp2) = L) (hown : Own v L W) (hlen : L.length < 1099511627776) (hF : F.answers W.tape) (hT : Tb W) :
    Calls Tryz.prog 10 #[v] W fun e W' => Below W.heap.size W W' ∧ ((okM [] ms = true ∧ ∃ M, e = .returned (.tuple #[.map (some M), .nilIface]) ∧ PM M ms W') ∨ (okM [] ms = false ∧ ∃ x, e = .returned (.tuple #[.map none, .iface 62 x]))) := by
  obtain ⟨g, cap, rfl⟩ := hown.shape (by rw [← hL]; simp [objTxt]; omega)
  refine (parseW F ms hv hn sp1 sp2 h1 h2 g _ cap W L hL.symm hown hlen hF hT).mono ?_
  rintro e W' (⟨ho, M, kvs, he, hm, hent, hb⟩ | ⟨ho, x, he, hb⟩)
  · exact ⟨hb, Or.inl ⟨ho, M, he, kvs, hm, hent⟩⟩
  · exact ⟨hb, Or.inr ⟨ho, x, he⟩⟩

set_option maxHeartbeats 4000000 in
theorem lawC (F : Go.Stop.Interp) (n s o : ByteArray) (W : World) (hF : F.answers W.tape) (hT : Tb W) :
    Calls Tryz.prog 5 #[.string n, .string s, .string o] W fun e W' => e = .returned (.bool true) ∧ Below W.heap.size W W' := by
  by_cases hsz : n.size + s.size + o.size ≤ 1048576
  · have hb17 : decide (n.size + s.size + o.size ≤ 1048576) = true := decide_eq_true hsz
    have h1 : ¬ (1048576 : Int) < (n.size : Int) := by omega
    have h2 : ¬ (1048576 : Int) < (s.size : Int) := by omega
    have h3 : ¬ (1048576 : Int) < (o.size : Int) := by omega
    have h5 : ¬ (1048576 : Int) < (n.size : Int) + (s.size : Int) + (o.size : Int) := by omega
    have HF : Aside (F.answers W.tape) := hF
    have HT : Aside (Tb W) := hT
    have hn := enc_len n.data.toList
    have hs := enc_len s.data.toList
    rw [len_list] at hn hs
    have HN : Aside ((enc n.data.toList).length ≤ 6 * n.size + 2) := hn
    have HS : Aside ((enc s.data.toList).length ≤ 6 * s.size + 2) := hs
    clear hF hT hn hs
    go_enter Tryz.func5, Tryz.ntmps5
    go_wp2_with fail
    refine (bytes17 n s o W).mono ?_
    rw [hb17]
    rintro e w ⟨rfl, rfl⟩
    go_wp2_with (at_builtin; refine wpl_app _ rfl _ _ rfl (.slice none 0 0) [] rfl (own_nil _) ⟨w.heap.size, 0, none⟩ 1 1 [123] rfl rfl (cells_new w [123] 5) (by simp) ?_)
    intro v1 W1 o1 g1 _
    have O1 : Aside (Own v1 [123] W1) := o1
    have G1 : Aside (Gr (.slice none 0 0) w v1 W1) := ((Gr.refl _ w).alloc _).trans g1
    clear o1 g1
    go_wp2_with fail
    refine (appendStringW n v1 [123] W1 O1.out (by omega) (by simp)).mono ?_
    rintro e W2 ⟨v2, rfl, o2, g2⟩
    have O2 : Aside (Own v2 ([123] ++ enc n.data.toList) W2) := o2
    have G2 : Aside (Gr (.slice none 0 0) w v2 W2) := G1.out.trans g2
    clear o2 g2
    go_wp2_with (at_builtin; refine wpl_app _ rfl _ _ rfl v2 ([123] ++ enc n.data.toList) rfl (O2.out.alloc _) ⟨W2.heap.size, 0, none⟩ 1 1 [58] rfl rfl (cells_new W2 [58] 5) (by have := HN.out; simp only [List.length_append, List.length_cons, List.length_nil]; omega) ?_)
    intro v3 W3 o3 g3 _
    have O3 : Aside (Own v3 ([123] ++ enc n.data.toList ++ [58]) W3) := o3
    have G3 : Aside (Gr (.slice none 0 0) w v3 W3) := (G2.out.alloc _).trans g3
    clear o3 g3
    go_wp2_with fail
    refine (appendStringW s v3 _ W3 O3.out (by omega) (by have := HN.out; simp only [List.length_append, List.length_cons, List.length_nil]; omega)).mono ?_
    rintro e W4 ⟨v4, rfl, o4, g4⟩
    have O4 : Aside (Own v4 ([123] ++ enc n.data.toList ++ [58] ++ enc s.data.toList) W4) := o4
    have G4 : Aside (Gr (.slice none 0 0) w v4 W4) := G3.out.trans g4
    clear o4 g4
    go_wp2_with (at_builtin; first
      | refine wpl_app _ rfl (.tmp 70) _ rfl v4 ([123] ++ enc n.data.toList ++ [58] ++ enc s.data.toList) rfl (O4.out.alloc _) ⟨W4.heap.size, 0, none⟩ 1 1 [125] rfl rfl (cells_new W4 [125] 5) (by have := HN.out; have := HS.out; simp only [List.length_append, List.length_cons, List.length_nil]; omega) ?_)
    intro v5 W5 o5 g5 _
    have O5 : Aside (Own v5 ([123] ++ enc n.data.toList ++ [58] ++ enc s.data.toList ++ [125]) W5) := by show Own _ _ _; simpa using o5
    have G5 : Aside (Gr (.slice none 0 0) w v5 W5) := (G4.out.alloc _).trans g5
    clear o5 g5
    go_wp2_with (at_builtin; refine wpl_app _ rfl _ _ rfl (.slice none 0 0) [] rfl (own_nil _) ⟨W5.heap.size, 0, none⟩ 1 1 [123] rfl rfl (cells_new W5 [123] 5) (by simp) ?_)
    intro u1 X1 o1 g1 _
    have P1 : Aside (Own u1 [123] X1) := o1
    have H1 : Aside (Gr (.slice none 0 0) W5 u1 X1) := ((Gr.refl _ W5).alloc _).trans g1
    clear o1 g1
    go_wp2_with fail
    refine (appendStringW n u1 [123] X1 P1.out (by omega) (by simp)).mono ?_
    rintro e X2 ⟨u2, rfl, o2, g2⟩
    have P2 : Aside (Own u2 ([123] ++ enc n.data.toList) X2) := o2
    have H2 : Aside (Gr (.slice none 0 0) W5 u2 X2) := H1.out.trans g2
    clear o2 g2
    go_wp2_with (at_builtin; refine wpl_app _ rfl _ _ rfl u2 ([123] ++ enc n.data.toList) rfl (P2.out.alloc _) ⟨X2.heap.size, 0, none⟩ 2 2 [58, 91] rfl rfl (cells_new X2 [58, 91] 5) (by have := HN.out; simp only [List.length_append, List.length_cons, List.length_nil]; omega) ?_)
    intro u3 X3 o3 g3 _
    have P3 : Aside (Own u3 ([123] ++ enc n.data.toList ++ [58, 91]) X3) := o3
    have H3 : Aside (Gr (.slice none 0 0) W5 u3 X3) := (H2.out.alloc _).trans g3
    clear o3 g3
    go_wp2_with fail
    refine (appendStringW s u3 _ X3 P3.out (by omega) (by have := HN.out; simp only [List.length_append, List.length_cons, List.length_nil]; omega)).mono ?_
    rintro e X4 ⟨u4, rfl, o4, g4⟩
    have P4 : Aside (Own u4 ([123] ++ enc n.data.toList ++ [58, 91] ++ enc s.data.toList) X4) := o4
    have H4 : Aside (Gr (.slice none 0 0) W5 u4 X4) := H3.out.trans g4
    clear o4 g4
    go_wp2_with (at_builtin; refine wpl_app _ rfl _ _ rfl u4 ([123] ++ enc n.data.toList ++ [58, 91] ++ enc s.data.toList) rfl (P4.out.alloc _) ⟨X4.heap.size, 0, none⟩ 2 2 [93, 125] rfl rfl (cells_new X4 [93, 125] 5) (by have := HN.out; have := HS.out; simp only [List.length_append, List.length_cons, List.length_nil]; omega) ?_)
    intro u5 X5 o5 g5 _
    have P5 : Aside (Own u5 ([123] ++ enc n.data.toList ++ [58, 91] ++ enc s.data.toList ++ [93, 125]) X5) := by show Own _ _ _; simpa using o5
    have H5 : Aside (Gr (.slice none 0 0) W5 u5 X5) := (H4.out.alloc _).trans g5
    clear o5 g5
    have BX : Aside (Below w.heap.size w X5) := Below.step G5.out.toBelow H5.out.toBelow
    have O6 : Aside (Own v5 ([123] ++ enc n.data.toList ++ [58] ++ enc s.data.toList ++ [125]) X5) := O5.out.below H5.out.toBelow
    clear O1 O2 O3 O4 O5 G1 G2 G3 G4 G5 P1 P2 P3 P4 H1 H2 H3 H4 H5
    go_wp2_with fail
    refine (parseOwn F (ms1 n s) (vc1 F n s (by omega)) (by intro m hm; rw [ms1, List.mem_singleton] at hm; subst hm; rw [len_list]; omega) [] [] (Or.inl rfl) (Or.inl rfl) v5 X5 _ (txt1 n s) O6.out (by have := HN.out; have := HS.out; simp only [List.length_append, List.length_cons, List.length_nil]; omega) (ans_below HF.out BX.out) (tabs_below HT.out BX.out)).mono ?_
    rw [ok1 n s]
    rintro e Y1 ⟨b1, hp1⟩
    have B1 : Aside (Below w.heap.size w Y1) := Below.step BX.out b1
    have Q5 : Aside (Own u5 ([123] ++ enc n.data.toList ++ [58, 91] ++ enc s.data.toList ++ [93, 125]) Y1) := P5.out.below b1
    clear b1 O6 P5
    rcases hp1 with ⟨hok, M1, rfl, pm1⟩ | ⟨hok, x1, rfl⟩
    · obtain ⟨hvn, hvs⟩ : valid n.data.toList = true ∧ valid s.data.toList = true := by simpa using hok
      have HOK : Aside ((valid n.data.toList && valid s.data.toList) = true) := hok
      have PM1 : Aside (PM M1 (ms1 n s) Y1) := pm1
      have HVN : Aside (valid n.data.toList = true) := hvn
      have HVS : Aside (valid s.data.toList = true) := hvs
      clear hok pm1 hvn hvs
      go_wp2_with fail
      refine (parseOwn F (ms2 n s) (vc2 F n s (by omega)) (by intro m hm; rw [ms2, List.mem_singleton] at hm; subst hm; rw [len_list]; omega) [] [] (Or.inl rfl) (Or.inl rfl) u5 Y1 _ (txt2 n s) Q5.out (by have := HN.out; have := HS.out; simp only [List.length_append, List.length_cons, List.length_nil]; omega) (ans_below HF.out B1.out) (tabs_below HT.out B1.out)).mono ?_
      rw [ok2 n s]
      rintro e Y2 ⟨b2, hp2⟩
      rcases hp2 with ⟨_, M2, rfl, pm2⟩ | ⟨hok, _⟩
      · have B2 : Aside (Below w.heap.size w Y2) := Below.step B1.out b2
        have PA : Aside (PM M1 (ms1 n s) Y2) := PM1.out.below b2
        have PB : Aside (PM M2 (ms2 n s) Y2) := pm2
        clear b2 pm2
        go_wp2_with fail
        refine (validW n Y2 (by omega)).mono ?_
        rw [HVN.out]
        rintro e w2 ⟨rfl, rfl⟩
        go_wp2_with fail
        refine (validW s _ (by omega)).mono ?_
        rw [HVS.out]
        rintro e w2 ⟨rfl, rfl⟩
        go_wp2_with fail
        have PA2 : Aside (PM M1 (ms1 n s) w2) := PA.out
        have PB2 : Aside (PM M2 (ms2 n s) w2) := PB.out
        clear PA PB PM1 Q5
        have hss := ba_ne s
        refine (getS_str F n PA2.out (ans_below HF.out B2.out) s (f1 n s) rfl).mono ?_
        rintro e Z1 ⟨rfl, bz⟩
        have B3 : Aside (Below w.heap.size w Z1) := Below.step B2.out bz
        have PA3 : Aside (PM M1 (ms1 n s) Z1) := PA2.out.below bz
        have PB3 : Aside (PM M2 (ms2 n s) Z1) := PB2.out.below bz
        clear bz
        go_wp2_with fail
        refine (getSS_arr F n (z2 n s) PB3.out (ans_below HF.out B3.out) (ss := [s.data.toList]) (f2 n s) rfl).mono ?_
        rintro e Z2 ⟨⟨bb, cur, rfl, hcb, hcu⟩, bz⟩
        have cz : Z2.cell? ⟨bb, 0, none⟩ = some (.string s) := by
          rw [cell_of_heap hcb]
          have : cur.toList[0]? = some (.string s) := by rw [hcu]; simp
          simpa using this
        have B4 : Aside (Below w.heap.size w Z2) := Below.step B3.out bz
        have PA4 : Aside (PM M1 (ms1 n s) Z2) := PA3.out.below bz
        have PB4 : Aside (PM M2 (ms2 n s) Z2) := PB3.out.below bz
        clear bz
        clear hcb hcu
        go_wp2_with fail
        refine (getSS_not F n (z1 n s) PA4.out (ans_below HF.out B4.out) (f1 n s) (fun ss e => by cases e)).mono ?_
        rintro e Z3 ⟨⟨x3, rfl⟩, bz⟩
        have B5 : Aside (Below w.heap.size w Z3) := Below.step B4.out bz
        have PA5 : Aside (PM M1 (ms1 n s) Z3) := PA4.out.below bz
        have PB5 : Aside (PM M2 (ms2 n s) Z3) := PB4.out.below bz
        clear bz
        clear cz
        go_wp2_with fail
        refine (getS_not F n PB5.out (ans_below HF.out B5.out) (f2 n s) (fun t e => by cases e)).mono ?_
        rintro e Z4 ⟨⟨x4, rfl⟩, bz⟩
        have B6 : Aside (Below w.heap.size w Z4) := Below.step B5.out bz
        have PA6 : Aside (PM M1 (ms1 n s) Z4) := PA5.out.below bz
        have PB6 : Aside (PM M2 (ms2 n s) Z4) := PB5.out.below bz
        clear bz
        obtain ⟨bo, hbo⟩ : ∃ bo, (!o.toList == n.toList) = bo := ⟨_, rfl⟩
        have HBO : Aside (bo = true → o ≠ n) := fun hbt e1 => by rw [hbt, e1] at hbo; simp at hbo
        cases bo
        · go_wp2
          go_ret
          exact ⟨rfl, B6.out⟩
        · go_wp2_with fail
          refine (getS_none F o PA6.out (ans_below HF.out B6.out) (f1n n s o (HBO.out (by trivial)))).mono ?_
          rintro e Z5 ⟨rfl, bz⟩
          have B7 : Aside (Below w.heap.size w Z5) := Below.step B6.out bz
          have PA7 : Aside (PM M1 (ms1 n s) Z5) := PA6.out.below bz
          have PB7 : Aside (PM M2 (ms2 n s) Z5) := PB6.out.below bz
          clear bz
          go_wp2_with fail
          refine (getSS_none F o (z2 n s) PB7.out (ans_below HF.out B7.out) (f2n n s o (HBO.out (by trivial)))).mono ?_
          rintro e Z6 ⟨rfl, bz⟩
          have B8 : Aside (Below w.heap.size w Z6) := Below.step B7.out bz
          clear bz
          go_wp2
          go_ret
          exact ⟨rfl, B8.out⟩
      · rw [HOK.out] at hok; cases hok
    · have HOK : Aside ((valid n.data.toList && valid s.data.toList) = false) := hok
      clear hok
      go_wp2_with fail
      refine (parseOwn F (ms2 n s) (vc2 F n s (by omega)) (by intro m hm; rw [ms2, List.mem_singleton] at hm; subst hm; rw [len_list]; omega) [] [] (Or.inl rfl) (Or.inl rfl) u5 Y1 _ (txt2 n s) Q5.out (by have := HN.out; have := HS.out; simp only [List.length_append, List.length_cons, List.length_nil]; omega) (ans_below HF.out B1.out) (tabs_below HT.out B1.out)).mono ?_
      rw [ok2 n s]
      rintro e Y2 ⟨b2, hp2⟩
      rcases hp2 with ⟨hok, _⟩ | ⟨_, x2, rfl⟩
      · rw [HOK.out] at hok; cases hok
      · have B2 : Aside (Below w.heap.size w Y2) := Below.step B1.out b2
        clear b2
        obtain ⟨vn, hvn⟩ : ∃ vn, valid n.data.toList = vn := ⟨_, rfl⟩
        have HVN : Aside (valid n.data.toList = vn) := hvn
        clear hvn
        go_wp2_with fail
        refine (validW n Y2 (by omega)).mono ?_
        rw [HVN.out]
        rintro e w2 ⟨rfl, rfl⟩
        cases vn
        · go_wp2
          go_ret
          exact ⟨rfl, B2.out⟩
        · have HVS : Aside (valid s.data.toList = false) := by
            have := HOK.out
            rw [HVN.out, Bool.true_and] at this
            exact this
          go_wp2_with fail
          refine (validW s _ (by omega)).mono ?_
          rw [HVS.out]
          rintro e w3 ⟨rfl, rfl⟩
          go_wp2
          go_ret
          exact ⟨rfl, B2.out⟩
  · have hb17 : decide (n.size + s.size + o.size ≤ 1048576) = false := decide_eq_false hsz
    clear hsz
    go_enter Tryz.func5, Tryz.ntmps5
    go_wp2_with fail
    refine (bytes17 n s o W).mono ?_
    rw [hb17]
    rintro e w ⟨rfl, rfl⟩
    go_wp2
    go_ret
    exact ⟨rfl, Below.refl _ _⟩
end Go.Proofs.Qxb6604447aGreatFmt
