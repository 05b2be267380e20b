/-
  The walk of literal, and 'value' at null, true and false.
-/
import Derived.Test.Qxb6604447aGreatFmtVal2
import Derived.Lib.ConvBytes
import Derived.Lib.AtoiErrMem
namespace Go.Proofs.Qxb6604447aGreatFmt
set_option maxRecDepth 1000000
open Go.RowKit Go.Lib

set_option maxHeartbeats 2000000 in
/-- bytes.HasPrefix where it is one. -/
theorem hasPrefW (word : List UInt8) (hw : 0 < word.length) (b off n cap b2 cap2 : Nat) (W : World) (hn : word.length ≤ n) (hcap : n ≤ cap)
    (h1 : ∀ (j : Nat) (x : UInt8), word[j]? = some x → W.cell? ⟨b, off + j, none⟩ = some (.int .u8 (x.toNat : Int)))
    (h2 : ∀ (j : Nat) (x : UInt8), word[j]? = some x → W.cell? ⟨b2, 0 + j, none⟩ = some (.int .u8 (x.toNat : Int))) :
    Calls Tryz.prog 42 #[.slice (some ⟨b, off, none⟩) n cap, .slice (some ⟨b2, 0, none⟩) word.length cap2] W fun e W' => e = .returned (.bool true) ∧ W' = W := by
  have c1 := conv_run word word.length rfl b off cap W h1
  have c2 := conv_run word word.length rfl b2 0 cap2 W h2
  have hge : (word.length : Int) ≤ (n : Int) := by omega
  have hcp : (word.length : Int) ≤ (cap : Int) := by omega
  have hne : ¬ cap = 0 := by omega
  clear h1 h2
  go_enter Tryz.func42, Tryz.ntmps42
  go_wp2_with (first | (go_at_call 52; go_in))
  go_ret
  exact ⟨rfl, rfl⟩

/-- '[]byte(word)', as the walk uses it. -/
theorem conv_new (word : List UInt8) : ∃ (K : World → Nat) (B : World → World), (∀ wx, (convert 9 25 (.string ⟨word.toArray⟩)).run Tryz.prog wx = .ok (.slice (some ⟨wx.heap.size, 0, none⟩) word.length (K wx)) (B wx)) ∧
    (∀ wx, Below wx.heap.size wx (B wx)) ∧ ∀ wx (j : Nat) (x : UInt8), word[j]? = some x → (B wx).cell? ⟨wx.heap.size, 0 + j, none⟩ = some (.int .u8 (x.toNat : Int)) := by
  refine ⟨fun wx => grownCap wx (ByteArray.size ⟨word.toArray⟩) 0 5, fun wx => bytesWorld wx 5 ⟨word.toArray⟩, fun wx => ?_, fun wx => bytesWorld_below wx 5 _, fun wx j x hx => ?_⟩
  · have := Lib.run_convert_string_bytes (P := Tryz.prog) wx 9 25 5 ⟨word.toArray⟩ Tryz.underlying9 Tryz.underlying25 Tryz.underlying5
    rw [this, mk_size]
  · have hj : j < word.length := (List.getElem?_eq_some_iff.1 hx).1
    rw [Nat.zero_add, bytesWorld_cell wx 5 ⟨word.toArray⟩ j (by rw [mk_size]; exact hj)]
    simp [List.getD, hx]

set_option maxHeartbeats 2000000 in
theorem literalW (word : List UInt8) (hw : 0 < word.length) (hw2 : word.length ≤ 100) {R g : Nat} {L : List UInt8} {cap pos : Nat} {bv : Value} {bs : List UInt8} (W : World) (h : Rd R g L cap pos bv bs W) (rest : List UInt8) (hd : L.drop pos = word ++ rest) :
    Calls Tryz.prog 34 #[.pointer (some ⟨R, 0, none⟩), .string ⟨word.toArray⟩] W fun e W' => e = .returned .nilIface ∧ Rd R g L cap (pos + word.length) bv bs W' ∧ St R bv W bv W' := by
  have c0 := h.c0
  have c1 := h.c1
  have f1 := h.fz 1
  have hlen := h.hlen
  have hcp := h.hcap
  have hR := h.ltR
  have hll : pos + word.length ≤ L.length := by
    have := congrArg List.length hd
    rw [List.length_drop, List.length_append] at this
    omega
  have hsf : ∀ wx, (Instr.slice 25 (.slice (some ⟨g, 0, none⟩) L.length cap) (some (.int .i64 (pos : Int))) none none).run Tryz.prog wx = .ok (.slice (some ⟨g, pos, none⟩) (L.length - pos) (cap - pos)) wx := sl_from g L.length cap pos (by omega) (by omega)
  have HR : Aside (Rd R g L cap pos bv bs W) := h
  have HD : Aside (L.drop pos = word ++ rest) := hd
  obtain ⟨K, B, hcv, hbl, hcl⟩ := conv_new word
  have HBL : Aside (∀ wx, Below wx.heap.size wx (B wx)) := hbl
  have HCL : Aside (∀ wx (j : Nat) (x : UInt8), word[j]? = some x → (B wx).cell? ⟨wx.heap.size, 0 + j, none⟩ = some (.int .u8 (x.toNat : Int))) := hcl
  have c0b : (B W.drew).cell? ⟨R, 0, none⟩ = some (.slice (some ⟨g, 0, none⟩) L.length cap) := ((hbl W.drew).cell hR).trans c0
  have c1b : (B W.drew).cell? ⟨R, 1, none⟩ = some (.int .i64 (pos : Int)) := ((hbl W.drew).cell hR).trans c1
  clear h hd hbl hcl
  go_enter Tryz.func34, Tryz.ntmps34
  go_wp2_with fail
  have hbw : Below W.heap.size W (B W.drew) := ⟨(HBL.out W.drew).os, (HBL.out W.drew).tape, (HBL.out W.drew).output, (HBL.out W.drew).size, (HBL.out W.drew).block⟩
  have RB : Aside (Rd R g L cap pos bv bs (B W.drew)) := HR.out.below hbw
  have SB : Aside (St R bv W bv (B W.drew)) := Below.toSt hbw R bv
  clear hbw
  have hpf : Aside (Calls Tryz.prog 42 #[.slice (some ⟨g, pos, none⟩) (L.length - pos) (cap - pos), .slice (some ⟨W.heap.size, 0, none⟩) word.length (K W.drew)] (B W.drew) fun e W' => e = .returned (.bool true) ∧ W' = B W.drew) :=
    hasPrefW word hw g pos _ _ W.heap.size _ _ (by omega) (by omega) (fun j x hx => drop_cells RB.out.dat HD.out hx) (fun j x hx => HCL.out W.drew j x hx)
  have f1b : (B W.drew).frozen? ⟨R, 1, none⟩ = false := RB.out.fz 1
  have hszw := mk_size word
  go_region_with (go_at_call 42; refine hpf.out.mono ?_; rintro e W3 ⟨rfl, rfl⟩)
  all_goals
    go_wp2
    go_ret
    exact ⟨rfl, RB.out.move (pos + word.length) (by omega), SB.out.setR _ _⟩

set_option maxHeartbeats 2000000 in
/-- 'value' at null. -/
theorem valNull (F : Go.Stop.Interp) (d : Nat) : VC F d [110, 117, 108, 108] true .oth := by
  intro R g L cap pos bv bs W rest h hd _ hb
  have HR : Aside (Rd R g L cap pos bv bs W) := h
  have HD : Aside (L.drop pos = [110, 117, 108, 108] ++ rest) := hd
  have HD0 : Aside (L.drop pos = 110 :: ([117, 108, 108] ++ rest)) := hd
  have hlt := drop_lt HD0.out
  have hcp := h.hcap
  have hne : ((pos : Int) == (L.length : Int)) = false := by rw [beq_eq_false_iff_ne]; omega
  have hp' : (pos : Int) < (L.length : Int) := by omega
  clear h hd hb
  go_enter Tryz.func24, Tryz.ntmps24
  go_wp2_with fail
  refine (skip0 W HR.out HD0.out rfl).mono ?_
  rintro e W1 ⟨rfl, h1, s1⟩
  have c0 := h1.c0
  have c1 := h1.c1
  have x0 : W1.cell? ⟨g, pos, none⟩ = some (.int .u8 110) := head_cell (x := 110) h1.dat HD0.out
  have H1 : Aside (Rd R g L cap pos bv bs W1) := h1
  have S1 : Aside (St R bv W bv W1) := s1
  clear h1 s1
  go_wp2_with fail
  go_quiet (fail)
  go_wp2_with fail
  go_quiet (fail)
  go_wp2_with fail
  refine (literalW [110, 117, 108, 108] (by decide) (by decide) _ (H1.out.drewN _) rest HD.out).mono ?_
  rintro e W2 ⟨rfl, h2, s2⟩
  have H2 : Aside (Rd R g L cap (pos + 4) bv bs W2) := h2
  have S2 : Aside (St R bv W bv W2) := (S1.out.drewN _).trans s2
  clear h2 s2
  go_wp2
  go_ret2
  exact Or.inl ⟨rfl, _, rfl, _, _, H2.out, S2.out, Or.inl rfl, fun b e => by cases e⟩

set_option maxHeartbeats 2000000 in
/-- 'value' at true. -/
theorem valTrue (F : Go.Stop.Interp) (d : Nat) : VC F d [116, 114, 117, 101] true .oth := by
  intro R g L cap pos bv bs W rest h hd _ hb
  have HR : Aside (Rd R g L cap pos bv bs W) := h
  have HD : Aside (L.drop pos = [116, 114, 117, 101] ++ rest) := hd
  have HD0 : Aside (L.drop pos = 116 :: ([114, 117, 101] ++ rest)) := hd
  have hlt := drop_lt HD0.out
  have hcp := h.hcap
  have hne : ((pos : Int) == (L.length : Int)) = false := by rw [beq_eq_false_iff_ne]; omega
  have hp' : (pos : Int) < (L.length : Int) := by omega
  clear h hd hb
  go_enter Tryz.func24, Tryz.ntmps24
  go_wp2_with fail
  refine (skip0 W HR.out HD0.out rfl).mono ?_
  rintro e W1 ⟨rfl, h1, s1⟩
  have c0 := h1.c0
  have c1 := h1.c1
  have x0 : W1.cell? ⟨g, pos, none⟩ = some (.int .u8 116) := head_cell (x := 116) h1.dat HD0.out
  have H1 : Aside (Rd R g L cap pos bv bs W1) := h1
  have S1 : Aside (St R bv W bv W1) := s1
  clear h1 s1
  go_wp2_with fail
  go_quiet (fail)
  go_wp2_with fail
  go_quiet (fail)
  go_wp2_with fail
  refine (literalW [116, 114, 117, 101] (by decide) (by decide) _ (H1.out.drewN _) rest HD.out).mono ?_
  rintro e W2 ⟨rfl, h2, s2⟩
  have H2 : Aside (Rd R g L cap (pos + 4) bv bs W2) := h2
  have S2 : Aside (St R bv W bv W2) := (S1.out.drewN _).trans s2
  clear h2 s2
  go_wp2
  go_ret2
  exact Or.inl ⟨rfl, _, rfl, _, _, H2.out, S2.out, Or.inr (Or.inl ⟨_, rfl⟩), fun b e => by cases e⟩

set_option maxHeartbeats 2000000 in
/-- 'value' at false. -/
theorem valFalse (F : Go.Stop.Interp) (d : Nat) : VC F d [102, 97, 108, 115, 101] true .oth := by
  intro R g L cap pos bv bs W rest h hd _ hb
  have HR : Aside (Rd R g L cap pos bv bs W) := h
  have HD : Aside (L.drop pos = [102, 97, 108, 115, 101] ++ rest) := hd
  have HD0 : Aside (L.drop pos = 102 :: ([97, 108, 115, 101] ++ rest)) := hd
  have hlt := drop_lt HD0.out
  have hcp := h.hcap
  have hne : ((pos : Int) == (L.length : Int)) = false := by rw [beq_eq_false_iff_ne]; omega
  have hp' : (pos : Int) < (L.length : Int) := by omega
  clear h hd hb
  go_enter Tryz.func24, Tryz.ntmps24
  go_wp2_with fail
  refine (skip0 W HR.out HD0.out rfl).mono ?_
  rintro e W1 ⟨rfl, h1, s1⟩
  have c0 := h1.c0
  have c1 := h1.c1
  have x0 : W1.cell? ⟨g, pos, none⟩ = some (.int .u8 102) := head_cell (x := 102) h1.dat HD0.out
  have H1 : Aside (Rd R g L cap pos bv bs W1) := h1
  have S1 : Aside (St R bv W bv W1) := s1
  clear h1 s1
  go_wp2_with fail
  go_quiet (fail)
  go_wp2_with fail
  go_quiet (fail)
  go_wp2_with fail
  refine (literalW [102, 97, 108, 115, 101] (by decide) (by decide) _ (H1.out.drewN _) rest HD.out).mono ?_
  rintro e W2 ⟨rfl, h2, s2⟩
  have H2 : Aside (Rd R g L cap (pos + 5) bv bs W2) := h2
  have S2 : Aside (St R bv W bv W2) := (S1.out.drewN _).trans s2
  clear h2 s2
  go_wp2
  go_ret2
  exact Or.inl ⟨rfl, _, rfl, _, _, H2.out, S2.out, Or.inr (Or.inl ⟨_, rfl⟩), fun b e => by cases e⟩
end Go.Proofs.Qxb6604447aGreatFmt
