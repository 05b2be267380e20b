/-
  The walk of AppendRune at an ASCII rune, and of escape at a control character.
-/
import Derived.Test.Qxb6604447aGreatFmtEsc
namespace Go.Proofs.Qxb6604447aGreatFmt
set_option maxRecDepth 1000000
open Go.RowKit Go.Lib

set_option maxHeartbeats 1000000 in
theorem appendRuneW (c : UInt8) (v : Value) (bs : List UInt8) (W : World) (hc : c.toNat < 32) (hown : Own v bs W) (hb : bs.length ≤ 1099511627776) :
    Calls Tryz.prog 48 #[v, .int .i32 (c.toNat : Int)] W fun e W' => ∃ v', e = .returned v' ∧ Own v' (bs ++ [c]) W' ∧ Gr v W v' W' ∧ Shp v' (bs.length + 1) := by
  have HO : Aside (Own v bs W) := hown
  clear hown
  have hc' : (c.toNat : Int) < 32 := by omega
  go_enter Tryz.func48, Tryz.ntmps48
  go_wp2_with (at_builtin; refine wpl_app _ rfl _ _ rfl v bs rfl ?xo ⟨W.heap.size, 0, none⟩ 1 1 [c] rfl rfl ?xc ?xb ?_)
  case xo => exact HO.out.alloc _
  case xc => exact cells_new W [c] 5
  case xb => omega
  intro v1 W1 own1 gr1 sh1
  have O1 : Aside (Own v1 (bs ++ [c]) W1) := own1
  have G1 : Aside (Gr v W v1 W1) := ((Gr.refl v W).alloc _).trans gr1
  have SH : Aside (Shp v1 (bs.length + 1)) := sh1
  clear own1 gr1 sh1
  go_wp2
  go_ret
  exact ⟨_, rfl, O1.out, G1.out, SH.out⟩

set_option maxHeartbeats 2000000 in
theorem escape_ctl {R g : Nat} {L : List UInt8} {cap pos : Nat} {bv : Value} {bs : List UInt8} (W : World) (h : Rd R g L cap pos bv bs W) (c y1 y2 : UInt8) (rest : List UInt8) (hc : c.toNat < 32) (hb : bs.length ≤ 1099511627776)
    (hy1 : y1.toNat = hexd (c.toNat / 16)) (hy2 : y2.toNat = hexd (c.toNat % 16)) (hd : L.drop pos = [92, 117, 48, 48, y1, y2] ++ rest) :
    Calls Tryz.prog 39 #[.pointer (some ⟨R, 0, none⟩)] W fun e W' => e = .returned .nilIface ∧ ∃ bv', Rd R g L cap (pos + 6) bv' (bs ++ [c]) W' ∧ St R bv W bv' W' := by
  have c0 := h.c0
  have c1 := h.c1
  have c2 := h.c2
  have f1 := h.fz 1
  have f2 := h.fz 2
  have hlen := h.hlen
  have hcp := h.hcap
  have hpl : pos + 6 ≤ L.length := by
    have := congrArg List.length hd
    simp only [List.length_drop, List.length_append, List.length_cons, List.length_nil] at this
    omega
  have d1 : W.cell? ⟨g, pos + 1, none⟩ = some (.int .u8 117) := drop_cells h.dat hd (j := 1) rfl
  have hne : ((pos : Int) + 1 == (L.length : Int)) = false := by simp; omega
  have hp1 : (pos : Int) + 1 < (L.length : Int) := by omega
  have htn1 : ((pos : Int) + 1).toNat = pos + 1 := by omega
  have hp0 : (0 : Int) ≤ (pos : Int) + 1 := by omega
  have hwr : IntKind.i64.wrap ((pos : Int) + 1) = (pos : Int) + 1 := by rw [IntKind.wrap_i64]; omega
  have hR := h.ltR
  have hc' : (c.toNat : Int) < 32 := by omega
  have HR : Aside (Rd R g L cap pos bv bs W) := h
  have HD : Aside (y1.toNat = hexd (c.toNat / 16) ∧ y2.toNat = hexd (c.toNat % 16) ∧ L.drop pos = [92, 117, 48, 48, y1, y2] ++ rest) := ⟨hy1, hy2, hd⟩
  clear h hd hy1 hy2
  go_enter Tryz.func39, Tryz.ntmps39
  go_wp2_with fail
  go_quiet (fail)
  go_wp2_with fail
  go_quiet ((go_at_call 44; exact (ix117 _).mono fun _ _ h => ⟨h.1, _, h.2⟩))
  go_wp2_with fail
  refine (unitW _ (HR.out.drewN _) pos c y1 y2 rest hc HD.out.1 HD.out.2.1 HD.out.2.2).mono ?_
  rintro e w1 ⟨rfl, rfl⟩
  go_wp2_with (first | (go_at_call 46; go_in))
  refine (appendRuneW c bv bs _ hc (show Own bv bs (W.drewN _) from HR.out.own) hb).mono ?_
  rintro e W' ⟨v', rfl, own', gr', sh'⟩
  obtain ⟨g2, cap2, rfl⟩ := sh'.get (by omega)
  have O2 : Aside (Own (.slice (some ⟨g2, 0, none⟩) (bs.length + 1) cap2) (bs ++ [c]) W') := own'
  have G2 : Aside (Gr bv W (.slice (some ⟨g2, 0, none⟩) (bs.length + 1) cap2) W') := Gr.trans (by exact Gr.same rfl rfl rfl rfl) gr'
  have k2 : W'.cell? ⟨R, 2, none⟩ = some bv := by rw [World.cell?_of_block (w := W) (a := ⟨R, 2, none⟩) (G2.out.keep R hR HR.out.neR)]; exact c2
  have k1 : W'.cell? ⟨R, 1, none⟩ = some (.int .i64 (pos : Int)) := by rw [World.cell?_of_block (w := W) (a := ⟨R, 1, none⟩) (G2.out.keep R hR HR.out.neR)]; exact c1
  have kf : ∀ o, W'.frozen? ⟨R, o, none⟩ = false := fun o => by rw [World.frozen?_of_block (w := W) (a := ⟨R, o, none⟩) (G2.out.keep R hR HR.out.neR)]; exact HR.out.fz o
  clear own' gr' sh'
  have h2 : Aside (Rd R g L cap pos (.slice (some ⟨g2, 0, none⟩) (bs.length + 1) cap2) (bs ++ [c]) (W'.setCell ⟨R, 2, none⟩ (.slice (some ⟨g2, 0, none⟩) (bs.length + 1) cap2))) := HR.out.rebuf G2.out O2.out
  have S2 : Aside (St R bv W (.slice (some ⟨g2, 0, none⟩) (bs.length + 1) cap2) (W'.setCell ⟨R, 2, none⟩ (.slice (some ⟨g2, 0, none⟩) (bs.length + 1) cap2))) := (G2.out.toSt R).setR _ _
  go_wp2
  go_ret
  exact ⟨rfl, _, h2.out.move (pos + 6) (by omega), S2.out.setR _ _⟩
end Go.Proofs.Qxb6604447aGreatFmt
