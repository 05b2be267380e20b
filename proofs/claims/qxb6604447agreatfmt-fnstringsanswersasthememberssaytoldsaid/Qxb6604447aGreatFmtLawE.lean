/-
  The walk of FnStringAnswersAsTheMembersSay: it answers true.
-/
import Derived.Test.Qxb6604447aGreatFmtLen
import Derived.Test.Qxb6604447aGreatFmtClone
import Derived.Test.Qxb6604447aGreatFmtBig
namespace Go.Proofs.Qxb6604447aGreatFmt
set_option maxRecDepth 1000000
open Go.RowKit Go.Lib

/-- What the laws' calls leave. -/
def LPost (W : World) (e : Ending) (W' : World) : Prop := e = .returned (.bool true) ∧ Below W.heap.size W W'

/-- Parse, of the members' text. -/
theorem parseMs (F : Go.Stop.Interp) (ms : List Mem) (hN : ms.length + tot ms ≤ 1048576) (v : Value) (W : World) (ho : Own v ([32] ++ (123 :: (jn [44, 32] (ms.map Mem.mtx) ++ [125]) ++ [10])) W) (hF : F.answers W.tape) (hT : Tb W) :
    Calls Tryz.prog 10 #[v] W fun e W' => Below W.heap.size W W' ∧ (((hasDup ms || !ms.all Mem.okTxt) = false ∧ ∃ M, e = .returned (.tuple #[.map (some M), .nilIface]) ∧ PM M (ms.map Mem.mb) W') ∨ ((hasDup ms || !ms.all Mem.okTxt) = true ∧ ∃ x, e = .returned (.tuple #[.map none, .iface 62 x]))) := by
  have hsm := small_of (ms := ms) (by omega)
  refine (parseOwn F (ms.map Mem.mb) ?_ ?_ [32] [10] (Or.inr rfl) (Or.inr rfl) v W _ (obj_txt ms) ho ?_ hF hT).mono ?_
  · intro m hm
    obtain ⟨x, hx, rfl⟩ := List.mem_map.1 hm
    exact vcM F x (hsm x hx)
  · intro m hm
    obtain ⟨x, hx, rfl⟩ := List.mem_map.1 hm
    show x.name.data.toList.length ≤ _
    rw [len_list]; exact (hsm x hx).1
  · have := obj_len ms hN
    simp only [List.length_append, List.length_cons, List.length_nil]
    omega
  · rintro e W' ⟨hb, h⟩
    rw [okM_nil] at h
    refine ⟨hb, ?_⟩
    generalize (hasDup ms || !ms.all Mem.okTxt) = q at h ⊢
    rcases h with ⟨h1, h2⟩ | ⟨h1, h2⟩
    · exact Or.inl ⟨by cases q <;> simp_all, h2⟩
    · exact Or.inr ⟨by cases q <;> simp_all, h2⟩

set_option maxHeartbeats 4000000 in
theorem lawE (F : Go.Stop.Interp) (v : Value) (ms : List Mem) (name : ByteArray) (W : World) (hv : MV v ms W) (hF : F.answers W.tape) (hT : Tb W) :
    Calls Tryz.prog 3 #[v, .string name] W (LPost W) := by
  have HV : Aside (MV v ms W) := hv
  have HF : Aside (F.answers W.tape) := hF
  have HT : Aside (Tb W) := hT
  obtain ⟨ao, c, rfl, _, _⟩ := hv
  obtain ⟨n, hn⟩ : ∃ n, ms.length = n := ⟨_, rfl⟩
  rw [hn] at HV ⊢
  have HN : Aside (ms.length = n) := hn
  clear hF hT hn
  go_enter Tryz.func3, Tryz.ntmps3
  go_wp2_with fail
  refine (bytes6W _ ms name W HV.out).mono ?_
  rintro e w ⟨hw, bo, rfl, hbo⟩
  rw [hw]
  clear hw
  cases bo
  · go_wp2_with fail
    go_ret
    exact ⟨rfl, Below.refl _ _⟩
  · have hNN := hbo rfl
    have HNN : Aside (ms.length + tot ms + name.size ≤ 1048576) := hNN
    have HSM : Aside (∀ m ∈ ms, m.small) := small_of (by omega)
    have HL : Aside (ms.length ≤ 1048576) := by show ms.length ≤ _; omega
    clear hbo hNN
    go_wp2_with fail
    refine (tooBigW _ ms name W HV.out HL.out (by have := HNN.out; omega) HSM.out).mono ?_
    rintro e W1 ⟨hb1, bo, rfl⟩
    have B1 : Aside (Below W.heap.size W W1) := hb1
    clear hb1
    cases bo
    · by_cases hbig : n ≤ 4096
      · have h4 : ¬ (4096 : Int) < (n : Int) := by omega
        go_wp2_with fail
        refine (cloneW _ ms W1 HL.out HSM.out (HV.out.below B1.out)).mono ?_
        rintro e W2 ⟨v2, rfl, hv2, hb2⟩
        have HV2 : Aside (MV v2 ms W2) := hv2
        have B2 : Aside (Below W.heap.size W W2) := Below.step B1.out hb2
        clear hv2 hb2
        go_wp2_with fail
        refine (writeObjW v2 ms W2 HV2.out HL.out HSM.out (by have := obj_len ms (by have := HNN.out; omega); omega)).mono ?_
        rintro e W3 ⟨v3, rfl, ho3, hb3⟩
        have O3 : Aside (Own v3 ([32] ++ (123 :: (jn [44, 32] (ms.map Mem.mtx) ++ [125]) ++ [10])) W3) := ho3
        have HV3 : Aside (MV v2 ms W3) := HV2.out.below hb3
        have B3 : Aside (Below W.heap.size W W3) := Below.step B2.out hb3
        clear ho3 hb3
        go_wp2_with fail
        refine (parseMs F ms (by have := HNN.out; omega) v3 W3 O3.out (ans_below HF.out B3.out) (tabs_below HT.out B3.out)).mono ?_
        rintro e W4 ⟨hb4, hres⟩
        have HV4 : Aside (MV v2 ms W4) := HV3.out.below hb4
        have B4 : Aside (Below W.heap.size W W4) := Below.step B3.out hb4
        obtain ⟨D, hD⟩ : ∃ D, hasDup ms = D := ⟨_, rfl⟩
        obtain ⟨A, hA⟩ : ∃ A, ms.all Mem.okTxt = A := ⟨_, rfl⟩
        rw [hD, hA] at hres
        have HD : Aside (hasDup ms = D) := hD
        have HA : Aside (ms.all Mem.okTxt = A) := hA
        clear hb4 hD hA
        rcases hres with ⟨hda, M, rfl, pm⟩ | ⟨hda, x, rfl⟩
        · have hD0 : D = false := by cases D <;> simp_all
          have hA1 : A = true := by cases A <;> simp_all
          subst hD0
          subst hA1
          have PM4 : Aside (PM M (ms.map Mem.mb) W4) := pm
          clear pm hda
          go_wp2_with fail
          refine (dupW v2 ms W4 HL.out HV4.out).mono ?_
          rw [HD.out]
          rintro e W5 ⟨rfl, hb5⟩
          have HV5 : Aside (MV v2 ms W5) := HV4.out.below hb5
          have B5 : Aside (Below W.heap.size W W5) := Below.step B4.out hb5
          have PM5 : Aside (PM M (ms.map Mem.mb) W5) := PM4.out.below hb5
          clear hb5
          go_wp2_with fail
          refine (allW v2 ms W5 HL.out HSM.out HV5.out).mono ?_
          rw [HA.out]
          rintro e w ⟨rfl, hw⟩
          rw [hw]
          clear hw
          go_wp2_with fail
          have hfm := findM_eq ms name
          obtain ⟨fo, hfo⟩ : ∃ fo, (ms.find? fun m => decide (m.name = name)) = fo := ⟨_, rfl⟩
          rw [hfo] at hfm
          have HFO : Aside ((ms.find? fun m => decide (m.name = name)) = fo) := hfo
          clear hfo
          cases fo with
          | none =>
            have HFM : Aside (findM name.data.toList (ms.map Mem.mb) = none) := hfm
            clear hfm
            refine (getS_none F name PM5.out (ans_below HF.out B5.out) HFM.out).mono ?_
            rintro e W6 ⟨rfl, hb6⟩
            have HV6 : Aside (MV v2 ms W6) := HV5.out.below hb6
            have B6 : Aside (Below W.heap.size W W6) := Below.step B5.out hb6
            clear hb6
            go_wp2_with fail
            refine (findW v2 ms name W6 HL.out HV6.out).mono ?_
            rw [HFO.out]
            rintro e w ⟨hw, ⟨_, rfl⟩ | ⟨k, m, hm, _⟩⟩
            · rw [hw]
              clear hw
              go_wp2_with fail
              go_ret
              exact ⟨rfl, B6.out⟩
            · cases hm
          | some m =>
            have HFM : Aside (findM name.data.toList (ms.map Mem.mb) = some m.mb) := hfm
            clear hfm
            by_cases hk0 : m.kind = 0
            · refine (getS_str F name PM5.out (ans_below HF.out B5.out) m.text HFM.out (sh_str hk0)).mono ?_
              rintro e W6 ⟨rfl, hb6⟩
              have HV6 : Aside (MV v2 ms W6) := HV5.out.below hb6
              have B6 : Aside (Below W.heap.size W W6) := Below.step B5.out hb6
              have HK0 : Aside (m.kind = 0) := hk0
              clear hb6 hk0
              go_wp2_with fail
              refine (findW v2 ms name W6 HL.out HV6.out).mono ?_
              rw [HFO.out]
              rintro e w ⟨hw, ⟨hx, _⟩ | ⟨k, m', hm, hmk, rfl⟩⟩
              · cases hx
              · cases hm
                rw [hw]
                clear hw
                obtain ⟨ao2, c2, rfl, _, hel⟩ := HV6.out
                obtain ⟨b, o, rfl, mc⟩ := hel k m hmk
                have c1 := mc.c1
                rw [HK0.out] at c1
                have c2' := mc.c2
                have hkn : k < n := by rw [← HN.out]; exact (List.getElem?_eq_some_iff.1 hmk).1
                have hkn' : (k : Int) < (n : Int) := by omega
                rw [HN.out]
                clear mc hel hmk
                go_wp2_with fail
                go_ret
                exact ⟨rfl, B6.out⟩
            · refine (getS_not F name PM5.out (ans_below HF.out B5.out) HFM.out (sh_notStr hk0)).mono ?_
              rintro e W6 ⟨⟨x6, rfl⟩, hb6⟩
              have HV6 : Aside (MV v2 ms W6) := HV5.out.below hb6
              have B6 : Aside (Below W.heap.size W W6) := Below.step B5.out hb6
              have HK0 : Aside (m.kind ≠ 0) := hk0
              clear hb6 hk0
              go_wp2_with fail
              refine (findW v2 ms name W6 HL.out HV6.out).mono ?_
              rw [HFO.out]
              rintro e w ⟨hw, ⟨hx, _⟩ | ⟨k, m', hm, hmk, rfl⟩⟩
              · cases hx
              · cases hm
                rw [hw]
                clear hw
                obtain ⟨ao2, c2, rfl, _, hel⟩ := HV6.out
                obtain ⟨b, o, rfl, mc⟩ := hel k m hmk
                have c1 := mc.c1
                have hne : ((m.kind : Int) == 0) = false := by rw [beq_eq_false_iff_ne]; have := HK0.out; omega
                have hkn : k < n := by rw [← HN.out]; exact (List.getElem?_eq_some_iff.1 hmk).1
                have hkn' : (k : Int) < (n : Int) := by omega
                rw [HN.out]
                clear mc hel hmk
                go_wp2_with fail
                go_ret
                exact ⟨rfl, B6.out⟩
        · go_wp2_with fail
          refine (dupW v2 ms W4 HL.out HV4.out).mono ?_
          rw [HD.out]
          rintro e W5 ⟨rfl, hb5⟩
          have HV5 : Aside (MV v2 ms W5) := HV4.out.below hb5
          have B5 : Aside (Below W.heap.size W W5) := Below.step B4.out hb5
          have HDA : Aside ((D || !A) = true) := hda
          clear hb5 hda
          cases D
          · have hA0 : A = false := by have := HDA.out; cases A <;> simp_all
            subst hA0
            go_wp2_with fail
            refine (allW v2 ms W5 HL.out HSM.out HV5.out).mono ?_
            rw [HA.out]
            rintro e w ⟨rfl, hw⟩
            rw [hw]
            clear hw
            go_wp2_with fail
            go_ret
            exact ⟨rfl, B5.out⟩
          · go_wp2_with fail
            go_ret
            exact ⟨rfl, B5.out⟩
      · have h4 : (4096 : Int) < (n : Int) := by omega
        go_wp2_with fail
        go_ret
        exact ⟨rfl, B1.out⟩
    · go_wp2_with fail
      go_ret
      exact ⟨rfl, B1.out⟩
end Go.Proofs.Qxb6604447aGreatFmt
