/-
  Helpers for the walk of string.
-/
import Derived.Test.Qxb6604447aGreatFmtCtlE
import Derived.Test.Qxb6604447aGreatFmtDec
import Derived.Test.Qxb6604447aGreatFmtFmt
namespace Go.Proofs.Qxb6604447aGreatFmt
set_option maxRecDepth 1000000
open Go.RowKit Go.Lib

theorem dec_err {c : UInt8} {l : List UInt8} (hc : ¬ c.toNat < 128) (h : (dec (c :: l)).2 = 1) : (dec (c :: l)).1 = 65533 := by
  revert h
  unfold dec Lib.decodeN
  simp only [List.length_cons, List.getD_cons_zero, List.getD_cons_succ]
  repeat' split
  all_goals (intro h; simp only at h ⊢; try omega)

theorem sl_mid (g L cap st p : Nat) (h1 : st ≤ p) (h2 : p ≤ cap) (h3 : st < cap) (wx : World) :
    (Instr.slice 25 (.slice (some ⟨g, 0, none⟩) L cap) (some (.int .i64 (st : Int))) (some (.int .i64 (p : Int))) none).run Tryz.prog wx = .ok (.slice (some ⟨g, st, none⟩) (p - st) (cap - st)) wx := by
  have e1 : (p : Int) ≤ (cap : Int) := by omega
  have e5 : ¬ cap = st := by omega
  have hz : (if st = 0 then (⟨g, 0, none⟩ : Addr) else ⟨g, st, none⟩) = ⟨g, st, none⟩ := by split <;> simp_all
  simp [Instr.slice, Instr.sliceBounds, run_underlying Tryz.underlying25, go_sem, e1, e5, Addr.add]
  rw [if_pos h1, hz]
theorem sl_from (g L cap st : Nat) (h1 : st ≤ L) (h3 : st < cap) (wx : World) :
    (Instr.slice 25 (.slice (some ⟨g, 0, none⟩) L cap) (some (.int .i64 (st : Int))) none none).run Tryz.prog wx = .ok (.slice (some ⟨g, st, none⟩) (L - st) (cap - st)) wx := by
  have e1 : (st : Int) ≤ (L : Int) := by omega
  have e4 : (0 : Int) ≤ (st : Int) := by omega
  have e5 : ¬ cap = st := by omega
  have hz : (if st = 0 then (⟨g, 0, none⟩ : Addr) else ⟨g, st, none⟩) = ⟨g, st, none⟩ := by split <;> simp_all
  simp [Instr.slice, Instr.sliceBounds, run_underlying Tryz.underlying25, go_sem, e1, e4, e5, Addr.add, hz]

/-- 'b[:0]' of a row of the call's own. -/
theorem reset_run {v : Value} {bs : List UInt8} {W : World} (h : Own v bs W) : ∃ a c, (∀ wx, (Instr.slice 25 v none (some (.int .i64 0)) none).run Tryz.prog wx = .ok (.slice a 0 c) wx) ∧ Own (.slice a 0 c) [] W ∧ (Value.slice a 0 c).ownBlock = v.ownBlock := by
  rcases h with ⟨_, ⟨rfl, _⟩ | ⟨g, cap, cur, rfl, _, hg, hn, hm, hs, _⟩⟩
  · refine ⟨none, 0, fun wx => ?_, own_nil W, rfl⟩
    simp [Instr.slice, Instr.sliceBounds, run_underlying Tryz.underlying25, go_sem]
  · refine ⟨some ⟨g, 0, none⟩, cap, fun wx => ?_, ⟨rfl, Or.inr ⟨g, cap, cur, rfl, Nat.zero_le _, hg, Nat.zero_le _, hm, hs, by simp [Lib.byteCells]⟩⟩, rfl⟩
    simp [Instr.slice, Instr.sliceBounds, run_underlying Tryz.underlying25, go_sem, Addr.add]
theorem tabs_keep {W W' : World} (h : Lib.Utf8Tabs 1 2 W) (h1 : W'.heap[1]? = W.heap[1]?) (h2 : W'.heap[2]? = W.heap[2]?) : Lib.Utf8Tabs 1 2 W' :=
  ⟨fun c hc => (World.cell?_of_block (w := W) (a := ⟨1, c, none⟩) h1).trans (h.1 c hc), fun i hi => ⟨(World.cell?_of_block (w := W) (a := ⟨2, 2 * i, none⟩) h2).trans (h.2 i hi).1, (World.cell?_of_block (w := W) (a := ⟨2, 2 * i + 1, none⟩) h2).trans (h.2 i hi).2⟩⟩
theorem St.far {R : Nat} {a b : Value} {W W' : World} (h : St R a W b W') {n : Nat} (hn : n ≤ W.heap.size) (ha : ∀ k, a.ownBlock = some k → n ≤ k) : ∀ k, b.ownBlock = some k → n ≤ k := fun k hk => by
  rcases h.buf k hk with e | e
  · exact ha k e
  · omega
theorem St.low {R : Nat} {a b : Value} {W W' : World} (h : St R a W b W') {n : Nat} (hn : n ≤ W.heap.size) (hR : n ≤ R) (ha : ∀ k, a.ownBlock = some k → n ≤ k) (k : Nat) (hk : k < n) : W'.heap[k]? = W.heap[k]? :=
  h.keep k (by omega) (by omega) (fun e => by have := ha k e; omega)
theorem Below.toSt {W W' : World} (h : Below W.heap.size W W') (R : Nat) (v : Value) : St R v W v W' := ⟨h.os, h.tape, h.output, h.size, fun k hk _ _ => h.block k hk, fun _ e => Or.inl e⟩
theorem Rd.below {R g : Nat} {L : List UInt8} {cap pos : Nat} {bv : Value} {bs : List UInt8} {W W' : World} (h : Rd R g L cap pos bv bs W) (b : Below W.heap.size W W') : Rd R g L cap pos bv bs W' where
  blk := (b.block R h.ltR).trans h.blk
  dat := h.dat.keep (b.block g h.dat.lt)
  own := ownsRow_keep h.own (fun k hk => b.block k (Own.lt h.own hk))
  neR := h.neR
  neG := h.neG
  neRG := h.neRG
  hpos := h.hpos
  hcap := h.hcap
  hmax := h.hmax
  hlen := h.hlen
/-- A row of bytes becomes a string. -/
theorem conv_run (l : List UInt8) (n : Nat) (hn : l.length = n) (b off cap : Nat) (wx : World) (h : ∀ (j : Nat) (x : UInt8), l[j]? = some x → wx.cell? ⟨b, off + j, none⟩ = some (.int .u8 (x.toNat : Int))) :
    (convert 25 9 (.slice (some ⟨b, off, none⟩) n cap)).run Tryz.prog wx = .ok (.string ⟨l.toArray⟩) wx := by
  subst hn
  refine run_convert_bytes_back wx 25 9 5 _ cap l Tryz.underlying25 Tryz.underlying5 Tryz.underlying9 (fun j hj => ?_)
  have hadd : (⟨b, off, none⟩ : Addr).add j = ⟨b, off + j, none⟩ := by unfold Addr.add; split <;> simp_all
  rw [hadd]
  exact h j _ (List.getElem?_eq_getElem hj)
theorem Own.cells {b n cap : Nat} {bs : List UInt8} {W : World} (h : Own (.slice (some ⟨b, 0, none⟩) n cap) bs W) : bs.length = n ∧ ∀ (j : Nat) (x : UInt8), bs[j]? = some x → W.cell? ⟨b, 0 + j, none⟩ = some (.int .u8 (x.toNat : Int)) := by
  rcases h with ⟨_, ⟨h0, _⟩ | ⟨g, cap, cur, hv, _, hg, hn, hm, hs, ht⟩⟩
  · cases h0
  · cases hv
    refine ⟨rfl, fun j x hx => ?_⟩
    have hj : j < bs.length := (List.getElem?_eq_some_iff.1 hx).1
    have e : (cur.toList.take (bs.length * 1))[j]? = some (.int .u8 (x.toNat : Int)) := by rw [ht]; simp [Lib.byteCells, hx]
    rw [List.getElem?_take_of_lt (by omega)] at e
    simp [World.cell?, hg]
    simpa using e
/-- What a call of string leaves. -/
def StrPost (R g : Nat) (L : List UInt8) (cap p : Nat) (t : List UInt8) (bv : Value) (W : World) (e : Ending) (W' : World) : Prop :=
  (valid t = true ∧ e = .returned (.tuple #[.string ⟨t.toArray⟩, .nilIface]) ∧ ∃ bv' bs', Rd R g L cap p bv' bs' W' ∧ St R bv W bv' W') ∨
  (valid t = false ∧ (∃ x, e = .returned (.tuple #[.string ⟨#[]⟩, .iface 62 x])) ∧ ∃ bv', St R bv W bv' W')
end Go.Proofs.Qxb6604447aGreatFmt
