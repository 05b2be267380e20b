/-
  The reader in memory: its block, its data, its buffer; what a step of the reader keeps; the walks of at, next, skipSpace.
-/
import Derived.Test.Qxb6604447aGreatFmtProg
import Derived.WalkKit
import Derived.WalkSpells
import Derived.WalkLawsBesides
import Derived.Deep.LoopGhost
import Derived.Deep.QuietTactic
import Derived.BigQuiet
import Derived.Lib.Builder
import Derived.Lib.IndexBytes
import Derived.Lib.FieldsLaws
namespace Go.Proofs.Qxb6604447aGreatFmt
set_option maxRecDepth 1000000
open Go.RowKit Go.Lib

/-- A row of bytes: block g holds at its head the bytes L. -/
def Dat (g : Nat) (L : List UInt8) (W : World) : Prop := ∃ cur cap, W.heap[g]? = some (.cells cur 5 (0, 0)) ∧ cur.size = cap ∧ L.length ≤ cap ∧ cur.toList.take L.length = Lib.byteCells L

/-- The reader in block R reads the bytes L in block g, stands at pos, and its buffer bv holds bs. -/
structure Rd (R g : Nat) (L : List UInt8) (cap pos : Nat) (bv : Value) (bs : List UInt8) (W : World) : Prop where
  blk : W.heap[R]? = some (.cells #[.slice (some ⟨g, 0, none⟩) L.length cap, .int .i64 (pos : Int), bv] 48 (0, 0))
  dat : Dat g L W
  own : W.ownsRow 0 5 1 bv bs.length (Lib.byteCells bs)
  neR : bv.ownBlock ≠ some R
  neG : bv.ownBlock ≠ some g
  neRG : R ≠ g
  hpos : pos ≤ L.length
  hcap : L.length ≤ cap
  hmax : cap ≤ maxLen
  hlen : L.length < 1099511627776

/-- What a step of the reader in block R keeps: every block but the reader's and its buffer's. -/
structure St (R : Nat) (bv : Value) (W : World) (bv' : Value) (W' : World) : Prop where
  os : W'.os = W.os
  tape : W'.tape = W.tape
  output : W'.output = W.output
  size : W.heap.size ≤ W'.heap.size
  keep : ∀ k, k < W.heap.size → k ≠ R → bv.ownBlock ≠ some k → W'.heap[k]? = W.heap[k]?
  buf : ∀ k, bv'.ownBlock = some k → bv.ownBlock = some k ∨ W.heap.size ≤ k

theorem St.refl (R : Nat) (bv : Value) (W : World) : St R bv W bv W := ⟨rfl, rfl, rfl, Nat.le_refl _, fun _ _ _ _ => rfl, fun _ h => Or.inl h⟩
theorem St.trans {R : Nat} {a b c : Value} {W W' W'' : World} (h : St R a W b W') (k : St R b W' c W'') : St R a W c W'' where
  os := k.os.trans h.os
  tape := k.tape.trans h.tape
  output := k.output.trans h.output
  size := Nat.le_trans h.size k.size
  keep := fun i hi hR hb => (k.keep i (Nat.lt_of_lt_of_le hi h.size) hR (fun e => by
    rcases h.buf i e with e | e
    · exact hb e
    · omega)).trans (h.keep i hi hR hb)
  buf := fun i e => by
    rcases k.buf i e with e | e
    · exact h.buf i e
    · exact Or.inr (Nat.le_trans h.size e)
theorem St.drewN {R : Nat} {a b : Value} {W W' : World} (h : St R a W b W') (n : Nat) : St R a W b (W'.drewN n) := h.trans ⟨rfl, rfl, rfl, Nat.le_refl _, fun _ _ _ _ => rfl, fun _ e => Or.inl e⟩
theorem St.alloc {R : Nat} {a b : Value} {W W' : World} (h : St R a W b W') (o : Obj) : St R a W b (W'.alloc o) := h.trans ⟨rfl, rfl, rfl, by simp, fun k hk _ _ => Below.heap_alloc _ _ _ hk, fun _ e => Or.inl e⟩
theorem St.setR {R : Nat} {a b : Value} {W W' : World} (h : St R a W b W') (o : Nat) (v : Value) : St R a W b (W'.setCell ⟨R, o, none⟩ v) :=
  h.trans ⟨rfl, rfl, rfl, by simp [World.setCell], fun k _ hR _ => Below.heap_setCell _ _ _ _ hR, fun _ e => Or.inl e⟩

section
variable {R g : Nat} {L : List UInt8} {cap pos : Nat} {bv : Value} {bs : List UInt8} {W : World}
theorem Rd.c0 (h : Rd R g L cap pos bv bs W) : W.cell? ⟨R, 0, none⟩ = some (.slice (some ⟨g, 0, none⟩) L.length cap) := by simp [World.cell?, h.blk]
theorem Rd.c1 (h : Rd R g L cap pos bv bs W) : W.cell? ⟨R, 1, none⟩ = some (.int .i64 (pos : Int)) := by simp [World.cell?, h.blk]
theorem Rd.c2 (h : Rd R g L cap pos bv bs W) : W.cell? ⟨R, 2, none⟩ = some bv := by simp [World.cell?, h.blk]
theorem Rd.fz (h : Rd R g L cap pos bv bs W) (o : Nat) : W.frozen? ⟨R, o, none⟩ = false := by simp [World.frozen?, h.blk]
theorem Dat.cell (h : Dat g L W) {j : Nat} {x : UInt8} (hx : L[j]? = some x) : W.cell? ⟨g, j, none⟩ = some (.int .u8 (x.toNat : Int)) := by
  obtain ⟨cur, cap, h1, h2, h3, h4⟩ := h
  have hj : j < L.length := (List.getElem?_eq_some_iff.1 hx).1
  have e : (cur.toList.take L.length)[j]? = some (.int .u8 (x.toNat : Int)) := by rw [h4]; simp [Lib.byteCells, hx]
  rw [List.getElem?_take_of_lt hj] at e
  simp [World.cell?, h1]
  simpa using e
theorem Dat.lt (h : Dat g L W) : g < W.heap.size := by
  obtain ⟨cur, cap, h1, _⟩ := h
  exact (Array.getElem?_eq_some_iff.1 h1).1
theorem Rd.ltR (h : Rd R g L cap pos bv bs W) : R < W.heap.size := (Array.getElem?_eq_some_iff.1 h.blk).1
theorem Dat.keep {W' : World} (h : Dat g L W) (e : W'.heap[g]? = W.heap[g]?) : Dat g L W' := by
  obtain ⟨cur, cap, h1, h2⟩ := h
  exact ⟨cur, cap, e.trans h1, h2⟩
theorem Rd.drewN (h : Rd R g L cap pos bv bs W) (n : Nat) : Rd R g L cap pos bv bs (W.drewN n) := ⟨h.blk, h.dat, h.own, h.neR, h.neG, h.neRG, h.hpos, h.hcap, h.hmax, h.hlen⟩

theorem ownsRow_keep {W' : World} {base : Nat} {e : TypeId} {size : Nat} {v : Value} {n : Nat} {xs : List Value} (h : W.ownsRow base e size v n xs) (hk : ∀ k, v.ownBlock = some k → W'.heap[k]? = W.heap[k]?) : W'.ownsRow base e size v n xs := by
  obtain ⟨h1, h2⟩ := h
  refine ⟨h1, ?_⟩
  rcases h2 with h2 | ⟨g, cap, cur, hv, hg, hh, r⟩
  · exact Or.inl h2
  · exact Or.inr ⟨g, cap, cur, hv, hg, (hk g (by rw [hv]; rfl)).trans hh, r⟩

theorem heap_setCell_at {b o : Nat} {cs : Array Value} {t : TypeId} {fz : Nat × Nat} (hb : W.heap[b]? = some (.cells cs t fz)) (v : Value) : (W.setCell ⟨b, o, none⟩ v).heap[b]? = some (.cells (cs.setIfInBounds o v) t fz) := by
  simp [World.setCell, Array.getElem?_modify, hb]

/-- The reader's position moved. -/
theorem Rd.move (h : Rd R g L cap pos bv bs W) (p : Nat) (hp : p ≤ L.length) : Rd R g L cap p bv bs (W.setCell ⟨R, 1, none⟩ (.int .i64 (p : Int))) where
  blk := by rw [heap_setCell_at h.blk]; rfl
  dat := h.dat.keep (Below.heap_setCell _ _ _ _ (Ne.symm h.neRG))
  own := ownsRow_keep h.own (fun k hk => Below.heap_setCell _ _ _ _ (fun e => h.neR (by rw [hk]; exact congrArg some e)))
  neR := h.neR
  neG := h.neG
  neRG := h.neRG
  hpos := hp
  hcap := h.hcap
  hmax := h.hmax
  hlen := h.hlen
end

set_option maxHeartbeats 1000000 in
theorem atW {R g : Nat} {L : List UInt8} {cap pos : Nat} {bv : Value} {bs : List UInt8} (c : Int) (W : World) (h : Rd R g L cap pos bv bs W) :
    Calls Tryz.prog 22 #[.pointer (some ⟨R, 0, none⟩), .int .u8 c] W fun e W' => e = .returned (.bool (L[pos]?.any fun x => (x.toNat : Int) == c)) ∧ ∃ n, W' = W.drewN n := by
  have c0 := h.c0
  have c1 := h.c1
  have hlen := h.hlen
  have hcp := h.hcap
  have HR : Aside (Rd R g L cap pos bv bs W) := h
  by_cases hp : pos < L.length
  · obtain ⟨x, hx⟩ : ∃ x, L[pos]? = some x := ⟨_, List.getElem?_eq_getElem hp⟩
    have cx := h.dat.cell hx
    have HX : Hid (L[pos]? = some x) := hx
    have hp' : (pos : Int) < (L.length : Int) := by omega
    clear h hx
    go_enter Tryz.func22, Tryz.ntmps22
    go_wp2_with fail
    go_quiet (fail)
    go_wp2
    go_ret
    refine ⟨?_, _, rfl⟩
    rw [HX.out]; rfl
  · have HX : Hid (L[pos]? = none) := List.getElem?_eq_none (by omega)
    have hp' : decide ((pos : Int) < (L.length : Int)) = false := by simp; omega
    clear h
    go_enter Tryz.func22, Tryz.ntmps22
    go_wp2_with fail
    go_quiet (fail)
    go_wp2
    go_ret
    refine ⟨?_, _, rfl⟩
    rw [HX.out]; rfl
end Go.Proofs.Qxb6604447aGreatFmt
