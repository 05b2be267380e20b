/-
  Further helpers for the walk of string: append leaves the elder value its bytes.
-/
import Derived.Test.Qxb6604447aGreatFmtStrA
namespace Go.Proofs.Qxb6604447aGreatFmt
set_option maxRecDepth 1000000
open Go.RowKit Go.Lib

theorem head_cell {g : Nat} {L : List UInt8} {W : World} (h : Dat g L W) {p : Nat} {x : UInt8} {l : List UInt8} (hd : L.drop p = x :: l) : W.cell? ⟨g, p, none⟩ = some (.int .u8 (x.toNat : Int)) :=
  drop_cells h (A := [x]) (rest := l) (j := 0) hd rfl
theorem Own.sl {v : Value} {bs : List UInt8} {W : World} (h : Own v bs W) : ∃ a k, v = .slice a bs.length k := by
  rcases h with ⟨_, ⟨rfl, h0⟩ | ⟨g, cap, cur, rfl, _⟩⟩
  · exact ⟨none, 0, by rw [h0]⟩
  · exact ⟨_, _, rfl⟩
theorem Dat.part {g : Nat} {L : List UInt8} {W : World} (h : Dat g L W) (st n : Nat) : ∀ (j : Nat) (x : UInt8), ((L.drop st).take n)[j]? = some x → W.cell? ⟨g, st + j, none⟩ = some (.int .u8 (x.toNat : Int)) := by
  intro j x hx
  have hj : j < n := by
    have := (List.getElem?_eq_some_iff.1 hx).1
    rw [List.length_take] at this; omega
  rw [List.getElem?_take_of_lt hj, List.getElem?_drop] at hx
  exact h.cell hx
theorem add_at (b off j : Nat) : (⟨b, off, none⟩ : Addr).add j = ⟨b, off + j, none⟩ := by unfold Addr.add; split <;> simp_all
theorem Dat.news {g : Nat} {L : List UInt8} {W : World} (h : Dat g L W) (st n : Nat) : NewsAt W ⟨g, st, none⟩ ((L.drop st).take n) := fun j x hx => by
  rw [add_at]; exact h.part st n j x hx
/-- append leaves the elder value its bytes. -/
theorem app_old (W : World) (ty : TypeId) (v : Value) (bs : List UInt8) (hown : Own v bs W)
    (ad : Addr) (m c : Nat) (news : List UInt8) (hl : news.length = m) (hnews : NewsAt W ad news)
    (hb : bs.length + m ≤ 70368744177664) {v' : Value} {W' : World} (hr : (Builtin.append_ #[25, 25] ty #[v, .slice (some ad) m c]).run Tryz.prog W = .ok v' W') : Own v bs W' := by
  obtain ⟨i, hi, hz, hs1, hs2⟩ := info5
  have hnl : (Lib.byteCells news).length = m * i.size := by simp [Lib.byteCells, hl, hs1]
  have hn2 : ∀ j u, (Lib.byteCells news)[j]? = some u → W.cell? (ad.add j) = some u := fun j u hj => by
    simp only [Lib.byteCells, List.getElem?_map, Option.map_eq_some_iff] at hj
    obtain ⟨b, h1, rfl⟩ := hj
    exact hnews j b h1
  have h1c : ∀ u ∈ Lib.byteCells news, u.oneCell' = true := fun u hu => by
    simp only [Lib.byteCells, List.mem_map] at hu
    obtain ⟨b, _, rfl⟩ := hu; rfl
  rcases hown with ⟨hx, ⟨rfl, h0⟩ | ⟨g, cap, cur, rfl, hbg, hg, hnc, hcm, hcs, ht⟩⟩
  · have e : bs = [] := List.eq_nil_of_length_eq_zero h0
    subst e; exact own_nil W'
  · by_cases hroom : bs.length + m ≤ cap
    · have hr2 := run_append_room (P := Tryz.prog) W 25 ty 5 i Tryz.underlying25 hi g bs.length cap cur hg ad m c (Lib.byteCells news) hnl hn2 h1c hroom (by rw [hnl, hs1, hcs]; omega)
      rw [hr2] at hr
      cases hr
      refine ⟨hx, Or.inr ⟨g, cap, _, rfl, hbg, setRow_heap W g cur _ 5 _ hg, hnc, hcm, ?_, ?_⟩⟩
      · simp only [List.size_toArray, List.length_append, List.length_take, List.length_drop, Array.length_toList, hnl, hs1]
        omega
      · rw [hs1, ht]
        simp only [List.append_assoc]
        rw [List.take_left' hx]
    · have hr2 := run_append_grow (P := Tryz.prog) W 25 ty 5 i (.int .u8 0) Tryz.underlying25 hi hz ⟨g, 0, none⟩ bs.length cap (Lib.byteCells bs) (by rw [hx, hs1]) (World.ownsRow.cells (e := 5) (size := 1) (base := 0) (n := bs.length) ⟨hx, Or.inr ⟨g, cap, cur, rfl, hbg, hg, hnc, hcm, hcs, ht⟩⟩ rfl) ad m c (Lib.byteCells news) hnl hn2 (by omega) (by omega) (growslice_fits (by omega) (by rw [hs2]; omega))
      rw [hr2] at hr
      cases hr
      exact ⟨hx, Or.inr ⟨g, cap, cur, rfl, hbg, (Below.heap_alloc W.drew _ _ (Array.getElem?_eq_some_iff.1 hg).1).trans hg, hnc, hcm, hcs, ht⟩⟩
theorem Gr.toSt2 {a b : Value} {W W' : World} (h : Gr a W b W') (R : Nat) : St R a W a W' := ⟨h.os, h.tape, h.output, h.size, fun k hk _ hb => h.keep k hk hb, fun _ e => Or.inl e⟩
theorem Rd.grown {R g : Nat} {L : List UInt8} {cap pos : Nat} {bv v : Value} {bs : List UInt8} {W W' : World} (h : Rd R g L cap pos bv bs W) (hg : Gr bv W v W') (ho : Own bv bs W') : Rd R g L cap pos bv bs W' where
  blk := (hg.keep R h.ltR h.neR).trans h.blk
  dat := h.dat.keep (hg.keep g h.dat.lt h.neG)
  own := ho
  neR := h.neR
  neG := h.neG
  neRG := h.neRG
  hpos := h.hpos
  hcap := h.hcap
  hmax := h.hmax
  hlen := h.hlen
section
variable {ops : Array Oper} {rest : List Oper} {o : Oper} {a : Act} {Q : Exit → Act → World → Prop}
/-- append, in a walk, where the elder value stays in use. -/
theorem wpl_app2 (W : World) (hgd : o.guard = none) (s x : Operand) (ho : o.op = .call { callee := .builtin .append, args := #[s, x], argTypes := #[25, 25] })
    (v : Value) (bs : List UInt8) (hs : a.eval s = v) (hown : Own v bs W)
    (ad : Addr) (m c : Nat) (news : List UInt8) (hx : a.eval x = .slice (some ad) m c) (hl : news.length = m) (hnews : NewsAt W ad news)
    (hb : bs.length + m ≤ 70368744177664)
    (h : ∀ v' W', Own v' (bs ++ news) W' ∧ Own v bs W' → Gr v W v' W' → Shp v' (bs.length + m) → wpList Tryz.prog ops Q rest (a.put o.dst v') W') :
    wpList Tryz.prog ops Q (o :: rest) a W := by
  refine wpList_plain hgd fun K hK => ?_
  obtain ⟨v', W', hr, h2, h3, h4⟩ := run_app W o.type v bs hown ad m c news hl hnews hb
  have h5 := app_old W o.type v bs hown ad m c news hl hnews hb hr
  unfold Oper.wp execOp
  simp only [ho, resolve, invoke, builtin, Sem.run_bind, Sem.run_pure, Result.andThen_ok, List.map_toArray, List.map_cons, List.map_nil, hs, hx, hr]
  exact hK _ _ (h v' W' ⟨h2, h5⟩ h3 h4)
end
end Go.Proofs.Qxb6604447aGreatFmt
