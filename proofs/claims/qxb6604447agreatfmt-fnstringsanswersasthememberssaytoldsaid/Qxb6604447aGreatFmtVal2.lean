/-
  'value' at an array and at an object.
-/
import Derived.Test.Qxb6604447aGreatFmtObj
namespace Go.Proofs.Qxb6604447aGreatFmt
set_option maxRecDepth 1000000
open Go.RowKit Go.Lib

set_option maxHeartbeats 2000000 in
theorem valArr (F : Go.Stop.Interp) (d : Nat) (els : List El) (hd10 : d < 10000) (hln : els.length ≤ 4194304) (hv : ∀ e ∈ els, VC F (d + 1) e.txt e.ok e.sh) (hh : ∀ e ∈ els, Hd e.txt) : VC F d (arrTxt els) (oks els) (.arr (els.map (·.sh.cell))) := by
  intro R g L cap pos bv bs W rest h hd _ hb
  have HR : Aside (Rd R g L cap pos bv bs W) := h
  have HD : Aside (L.drop pos = arrTxt els ++ rest) := hd
  have hd0 : L.drop pos = 91 :: (joinE els ++ [93] ++ rest) := hd
  have HD0 : Aside (L.drop pos = 91 :: (joinE els ++ [93] ++ rest)) := hd0
  have HB : Aside (Base F R bv W) := hb
  have HV : Aside (∀ e ∈ els, VC F (d + 1) e.txt e.ok e.sh) := hv
  have HH : Aside (∀ e ∈ els, Hd e.txt) := hh
  have hlt := drop_lt hd0
  have hcp := h.hcap
  have hne : ((pos : Int) == (L.length : Int)) = false := by rw [beq_eq_false_iff_ne]; omega
  have hdd : ((d : Int) == 10000) = false := by rw [beq_eq_false_iff_ne]; omega
  have hp' : (pos : Int) < (L.length : Int) := by omega
  obtain ⟨E, hE⟩ : ∃ E, pos + (arrTxt els).length = E := ⟨_, rfl⟩
  rw [hE]
  have HE : Aside (pos + (arrTxt els).length = E) := hE
  clear h hd hd0 hb hE hv hh
  go_enter Tryz.func24, Tryz.ntmps24
  go_wp2_with fail
  refine (skip0 W HR.out HD0.out rfl).mono ?_
  rintro e W1 ⟨rfl, h1, s1⟩
  have c0 := h1.c0
  have c1 := h1.c1
  have x0 : W1.cell? ⟨g, pos, none⟩ = some (.int .u8 91) := head_cell (x := 91) h1.dat HD0.out
  have H1 : Aside (Rd R g L cap pos bv bs W1) := h1
  have S1 : Aside (St R bv W bv W1) := s1
  clear h1 s1
  go_wp2_with fail
  go_quiet (fail)
  go_wp2_with fail
  go_quiet (fail)
  go_wp2_with fail
  refine (arrayW F d els hd10 hln HV.out HH.out R g L cap pos bv bs _ rest (H1.out.drewN _) HD.out (HB.out.step HR.out.ltR (S1.out.drewN _))).mono ?_
  rw [HE.out]
  rintro e W2 (⟨hv, v, rfl, bv2, bs2, h2, s2, k2⟩ | ⟨hv, v, x, rfl, bv2, s2⟩)
  · go_wp2
    go_ret2
    exact Or.inl ⟨hv, _, rfl, _, _, h2, (S1.out.drewN _).trans s2, k2⟩
  · go_wp2
    go_ret2
    exact Or.inr ⟨hv, _, _, rfl, _, (S1.out.drewN _).trans s2⟩

set_option maxHeartbeats 2000000 in
theorem valObj (F : Go.Stop.Interp) (d : Nat) (ms : List Mb) (hd10 : d < 10000) (hv : ∀ m ∈ ms, VC F (d + 1) m.el.txt m.el.ok m.el.sh) (hn : ∀ m ∈ ms, m.name.length ≤ 1048576)
    (R g : Nat) (L : List UInt8) (cap pos : Nat) (bv : Value) (bs : List UInt8) (W : World) (rest : List UInt8) (h : Rd R g L cap pos bv bs W) (hd : L.drop pos = objTxt ms ++ rest) (hb : Base F R bv W) :
    Calls Tryz.prog 24 #[.pointer (some ⟨R, 0, none⟩), .int .i64 (d : Int)] W (MPost R g L cap (pos + (objTxt ms).length) (okM [] ms) ms bv W) := by
  have HR : Aside (Rd R g L cap pos bv bs W) := h
  have HD : Aside (L.drop pos = objTxt ms ++ rest) := hd
  have hd0 : L.drop pos = 123 :: (joinM ms ++ [125] ++ rest) := hd
  have HD0 : Aside (L.drop pos = 123 :: (joinM ms ++ [125] ++ rest)) := hd0
  have HB : Aside (Base F R bv W) := hb
  have HV : Aside (∀ m ∈ ms, VC F (d + 1) m.el.txt m.el.ok m.el.sh) := hv
  have HN : Aside (∀ m ∈ ms, m.name.length ≤ 1048576) := hn
  have hlt := drop_lt hd0
  have hcp := h.hcap
  have hne : ((pos : Int) == (L.length : Int)) = false := by rw [beq_eq_false_iff_ne]; omega
  have hdd : ((d : Int) == 10000) = false := by rw [beq_eq_false_iff_ne]; omega
  have hp' : (pos : Int) < (L.length : Int) := by omega
  obtain ⟨E, hE⟩ : ∃ E, pos + (objTxt ms).length = E := ⟨_, rfl⟩
  rw [hE]
  have HE : Aside (pos + (objTxt ms).length = E) := hE
  clear h hd hd0 hb hE hv hn
  go_enter Tryz.func24, Tryz.ntmps24
  go_wp2_with fail
  refine (skip0 W HR.out HD0.out rfl).mono ?_
  rintro e W1 ⟨rfl, h1, s1⟩
  have c0 := h1.c0
  have c1 := h1.c1
  have x0 : W1.cell? ⟨g, pos, none⟩ = some (.int .u8 123) := head_cell (x := 123) h1.dat HD0.out
  have H1 : Aside (Rd R g L cap pos bv bs W1) := h1
  have S1 : Aside (St R bv W bv W1) := s1
  clear h1 s1
  go_wp2_with fail
  go_quiet (fail)
  go_wp2_with fail
  go_quiet (fail)
  go_wp2_with fail
  refine (objectW F d ms hd10 HV.out HN.out R g L cap pos bv bs _ rest (H1.out.drewN _) HD.out (HB.out.step HR.out.ltR (S1.out.drewN _))).mono ?_
  rw [HE.out]
  rintro e W2 (⟨hv, M, kvs, rfl, bv2, bs2, h2, s2, m2, k2⟩ | ⟨hv, v, x, rfl, bv2, s2⟩)
  · go_wp2
    go_ret2
    exact Or.inl ⟨hv, M, kvs, rfl, _, _, h2, (S1.out.drewN _).trans s2, m2, k2⟩
  · go_wp2
    go_ret2
    exact Or.inr ⟨hv, _, _, rfl, _, (S1.out.drewN _).trans s2⟩
theorem valObj0 (F : Go.Stop.Interp) (d : Nat) (hd10 : d < 10000) : VC F d [123, 125] true .oth := by
  intro R g L cap pos bv bs W rest h hd _ hb
  refine (valObj F d [] hd10 (by simp) (by simp) R g L cap pos bv bs W rest h hd hb).mono ?_
  rintro e W2 (⟨hv, M, kvs, rfl, bv2, bs2, h2, s2, m2, k2⟩ | ⟨hv, _⟩)
  · exact Or.inl ⟨rfl, _, rfl, _, _, h2, s2, Or.inr (Or.inr (Or.inr ⟨_, rfl⟩)), fun b e => by cases e⟩
  · cases hv
end Go.Proofs.Qxb6604447aGreatFmt
