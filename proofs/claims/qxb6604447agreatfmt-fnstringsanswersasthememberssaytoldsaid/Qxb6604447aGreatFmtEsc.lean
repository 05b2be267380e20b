/-
  The walk of escape at what zzAppendString writes.
-/
import Derived.Test.Qxb6604447aGreatFmtUnit
import Derived.Test.Qxb6604447aGreatFmtShelf
import Derived.Deep.RegionLaw
namespace Go.Proofs.Qxb6604447aGreatFmt
set_option maxRecDepth 1000000
open Go.RowKit Go.Lib

/-- The reader's buffer replaced. -/
theorem Rd.rebuf {R g : Nat} {L : List UInt8} {cap pos : Nat} {bv : Value} {bs : List UInt8} {W W' : World} {v : Value} {bs' : List UInt8} (h : Rd R g L cap pos bv bs W) (hg : Gr bv W v W') (ho : Own v bs' W') :
    Rd R g L cap pos v bs' (W'.setCell ⟨R, 2, none⟩ v) := by
  have hR : W'.heap[R]? = W.heap[R]? := hg.keep R h.ltR h.neR
  have hG : W'.heap[g]? = W.heap[g]? := hg.keep g h.dat.lt h.neG
  have nR : v.ownBlock ≠ some R := fun e => by
    rcases hg.buf R e with e | e
    · exact h.neR e
    · have := h.ltR; omega
  have nG : v.ownBlock ≠ some g := fun e => by
    rcases hg.buf g e with e | e
    · exact h.neG e
    · have := h.dat.lt; omega
  exact {
    blk := by rw [heap_setCell_at (hR.trans h.blk)]; rfl
    dat := (h.dat.keep hG).keep (Below.heap_setCell _ _ _ _ (Ne.symm h.neRG))
    own := ownsRow_keep ho (fun k hk => Below.heap_setCell _ _ _ _ (fun e => nR (by rw [hk]; exact congrArg some e)))
    neR := nR
    neG := nG
    neRG := h.neRG
    hpos := h.hpos
    hcap := h.hcap
    hmax := h.hmax
    hlen := h.hlen }

theorem ix34 (w : World) : Calls Tryz.prog 44 #[.string { data := #[34, 92, 47, 98, 102, 110, 114, 116] }, .int .u8 34] w fun e w' => e = .returned (.int .i64 0) ∧ w' = w :=
  Tryz.strings_IndexByte { data := #[34, 92, 47, 98, 102, 110, 114, 116] } 34 w
theorem ix92 (w : World) : Calls Tryz.prog 44 #[.string { data := #[34, 92, 47, 98, 102, 110, 114, 116] }, .int .u8 92] w fun e w' => e = .returned (.int .i64 1) ∧ w' = w :=
  Tryz.strings_IndexByte { data := #[34, 92, 47, 98, 102, 110, 114, 116] } 92 w
theorem ix117 (w : World) : Calls Tryz.prog 44 #[.string { data := #[34, 92, 47, 98, 102, 110, 114, 116] }, .int .u8 117] w fun e w' => e = .returned (.int .i64 (-1)) ∧ w' = w :=
  Tryz.strings_IndexByte { data := #[34, 92, 47, 98, 102, 110, 114, 116] } 117 w

set_option maxHeartbeats 2000000 in
theorem escape_34 {R g : Nat} {L : List UInt8} {cap pos : Nat} {bv : Value} {bs : List UInt8} (W : World) (h : Rd R g L cap pos bv bs W) (rest : List UInt8) (hb : bs.length ≤ 1099511627776) (hd : L.drop pos = [92, 34] ++ rest) :
    Calls Tryz.prog 39 #[.pointer (some ⟨R, 0, none⟩)] W fun e W' => e = .returned .nilIface ∧ ∃ bv', Rd R g L cap (pos + 2) bv' (bs ++ [34]) W' ∧ St R bv W bv' W' := by
  have c0 := h.c0
  have c1 := h.c1
  have c2 := h.c2
  have f1 := h.fz 1
  have f2 := h.fz 2
  have hlen := h.hlen
  have hcp := h.hcap
  have hpl : pos + 2 ≤ L.length := by
    have := congrArg List.length hd
    simp only [List.length_drop, List.length_append, List.length_cons, List.length_nil] at this
    omega
  have d1 : W.cell? ⟨g, pos + 1, none⟩ = some (.int .u8 34) := drop_cells h.dat hd (j := 1) rfl
  have hne : ((pos : Int) + 1 == (L.length : Int)) = false := by simp; omega
  have hp1 : (pos : Int) + 1 < (L.length : Int) := by omega
  have htn1 : ((pos : Int) + 1).toNat = pos + 1 := by omega
  have hp0 : (0 : Int) ≤ (pos : Int) + 1 := by omega
  have hwr : IntKind.i64.wrap ((pos : Int) + 1) = (pos : Int) + 1 := by rw [IntKind.wrap_i64]; omega
  have hix : ∀ hh, ({ data := #[34, 92, 47, 8, 12, 10, 13, 9] } : ByteArray)[0]'hh = 34 := fun _ => rfl
  have hR := h.ltR
  have c2a : ∀ n o, ((W.drewN n).alloc o).cell? ⟨R, 2, none⟩ = some bv := fun n o => (World.cell?_alloc_lt (w := W.drewN n) (a := ⟨R, 2, none⟩) (o := o) hR).trans c2
  have HR : Aside (Rd R g L cap pos bv bs W) := h
  clear h hd
  go_enter Tryz.func39, Tryz.ntmps39
  go_wp2_with fail
  go_quiet (fail)
  go_wp2_with fail
  go_quiet ((go_at_call 44; exact (ix34 _).mono fun _ _ h => ⟨h.1, _, h.2⟩))
  go_wp2_with fail
  go_region_law (
    (refine step_app _ rfl (.tmp 39) (.tmp 42) rfl bv bs ?_ ?_ ⟨W.heap.size, 0, none⟩ 1 1 [34] ?_ rfl ?_ ?_ ?_
     · rfl
     · exact (show Own bv bs (W.drewN _) from HR.out.own).alloc _
     · rfl
     · exact cells_new (W.drewN _) [34] 5
     · omega
     intro v' W' own' gr' sh'
     obtain ⟨g2, cap2, rfl⟩ := sh'.get (by omega)
     have O2 : Aside (Own (.slice (some ⟨g2, 0, none⟩) (bs.length + 1) cap2) (bs ++ [34]) W') := own'
     have G2 : Aside (Gr bv W (.slice (some ⟨g2, 0, none⟩) (bs.length + 1) cap2) W') := Gr.trans (by exact Gr.like _ rfl rfl rfl rfl) gr'
     have k2 : W'.cell? ⟨R, 2, none⟩ = some bv := by rw [World.cell?_of_block (w := W) (a := ⟨R, 2, none⟩) (G2.out.keep R hR HR.out.neR)]; exact c2
     have k1 : W'.cell? ⟨R, 1, none⟩ = some (.int .i64 (pos : Int)) := by rw [World.cell?_of_block (w := W) (a := ⟨R, 1, none⟩) (G2.out.keep R hR HR.out.neR)]; exact c1
     have kf : ∀ o, W'.frozen? ⟨R, o, none⟩ = false := fun o => by rw [World.frozen?_of_block (w := W) (a := ⟨R, o, none⟩) (G2.out.keep R hR HR.out.neR)]; exact HR.out.fz o
     clear own' gr' sh'))
  all_goals
    have h2 : Aside (Rd R g L cap pos (.slice (some ⟨g2, 0, none⟩) (bs.length + 1) cap2) (bs ++ [34]) (W'.setCell ⟨R, 2, none⟩ (.slice (some ⟨g2, 0, none⟩) (bs.length + 1) cap2))) := HR.out.rebuf G2.out O2.out
    have S2 : Aside (St R bv W (.slice (some ⟨g2, 0, none⟩) (bs.length + 1) cap2) (W'.setCell ⟨R, 2, none⟩ (.slice (some ⟨g2, 0, none⟩) (bs.length + 1) cap2))) := (G2.out.toSt R).setR _ _
    go_wp2
    go_ret
    exact ⟨rfl, _, h2.out.move (pos + 2) (by omega), S2.out.setR _ _⟩

set_option maxHeartbeats 2000000 in
theorem escape_92 {R g : Nat} {L : List UInt8} {cap pos : Nat} {bv : Value} {bs : List UInt8} (W : World) (h : Rd R g L cap pos bv bs W) (rest : List UInt8) (hb : bs.length ≤ 1099511627776) (hd : L.drop pos = [92, 92] ++ rest) :
    Calls Tryz.prog 39 #[.pointer (some ⟨R, 0, none⟩)] W fun e W' => e = .returned .nilIface ∧ ∃ bv', Rd R g L cap (pos + 2) bv' (bs ++ [92]) W' ∧ St R bv W bv' W' := by
  have c0 := h.c0
  have c1 := h.c1
  have c2 := h.c2
  have f1 := h.fz 1
  have f2 := h.fz 2
  have hlen := h.hlen
  have hcp := h.hcap
  have hpl : pos + 2 ≤ L.length := by
    have := congrArg List.length hd
    simp only [List.length_drop, List.length_append, List.length_cons, List.length_nil] at this
    omega
  have d1 : W.cell? ⟨g, pos + 1, none⟩ = some (.int .u8 92) := drop_cells h.dat hd (j := 1) rfl
  have hne : ((pos : Int) + 1 == (L.length : Int)) = false := by simp; omega
  have hp1 : (pos : Int) + 1 < (L.length : Int) := by omega
  have htn1 : ((pos : Int) + 1).toNat = pos + 1 := by omega
  have hp0 : (0 : Int) ≤ (pos : Int) + 1 := by omega
  have hwr : IntKind.i64.wrap ((pos : Int) + 1) = (pos : Int) + 1 := by rw [IntKind.wrap_i64]; omega
  have hix : ∀ hh, ({ data := #[34, 92, 47, 8, 12, 10, 13, 9] } : ByteArray)[1]'hh = 92 := fun _ => rfl
  have hR := h.ltR
  have c2a : ∀ n o, ((W.drewN n).alloc o).cell? ⟨R, 2, none⟩ = some bv := fun n o => (World.cell?_alloc_lt (w := W.drewN n) (a := ⟨R, 2, none⟩) (o := o) hR).trans c2
  have HR : Aside (Rd R g L cap pos bv bs W) := h
  clear h hd
  go_enter Tryz.func39, Tryz.ntmps39
  go_wp2_with fail
  go_quiet (fail)
  go_wp2_with fail
  go_quiet ((go_at_call 44; exact (ix92 _).mono fun _ _ h => ⟨h.1, _, h.2⟩))
  go_wp2_with fail
  go_region_law (
    (refine step_app _ rfl (.tmp 39) (.tmp 42) rfl bv bs ?_ ?_ ⟨W.heap.size, 0, none⟩ 1 1 [92] ?_ rfl ?_ ?_ ?_
     · rfl
     · exact (show Own bv bs (W.drewN _) from HR.out.own).alloc _
     · rfl
     · exact cells_new (W.drewN _) [92] 5
     · omega
     intro v' W' own' gr' sh'
     obtain ⟨g2, cap2, rfl⟩ := sh'.get (by omega)
     have O2 : Aside (Own (.slice (some ⟨g2, 0, none⟩) (bs.length + 1) cap2) (bs ++ [92]) W') := own'
     have G2 : Aside (Gr bv W (.slice (some ⟨g2, 0, none⟩) (bs.length + 1) cap2) W') := Gr.trans (by exact Gr.like _ rfl rfl rfl rfl) gr'
     have k2 : W'.cell? ⟨R, 2, none⟩ = some bv := by rw [World.cell?_of_block (w := W) (a := ⟨R, 2, none⟩) (G2.out.keep R hR HR.out.neR)]; exact c2
     have k1 : W'.cell? ⟨R, 1, none⟩ = some (.int .i64 (pos : Int)) := by rw [World.cell?_of_block (w := W) (a := ⟨R, 1, none⟩) (G2.out.keep R hR HR.out.neR)]; exact c1
     have kf : ∀ o, W'.frozen? ⟨R, o, none⟩ = false := fun o => by rw [World.frozen?_of_block (w := W) (a := ⟨R, o, none⟩) (G2.out.keep R hR HR.out.neR)]; exact HR.out.fz o
     clear own' gr' sh'))
  all_goals
    have h2 : Aside (Rd R g L cap pos (.slice (some ⟨g2, 0, none⟩) (bs.length + 1) cap2) (bs ++ [92]) (W'.setCell ⟨R, 2, none⟩ (.slice (some ⟨g2, 0, none⟩) (bs.length + 1) cap2))) := HR.out.rebuf G2.out O2.out
    have S2 : Aside (St R bv W (.slice (some ⟨g2, 0, none⟩) (bs.length + 1) cap2) (W'.setCell ⟨R, 2, none⟩ (.slice (some ⟨g2, 0, none⟩) (bs.length + 1) cap2))) := (G2.out.toSt R).setR _ _
    go_wp2
    go_ret
    exact ⟨rfl, _, h2.out.move (pos + 2) (by omega), S2.out.setR _ _⟩
end Go.Proofs.Qxb6604447aGreatFmt
