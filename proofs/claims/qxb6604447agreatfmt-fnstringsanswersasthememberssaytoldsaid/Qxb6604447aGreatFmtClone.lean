/-
  The walk of zzCloneMembers.
-/
import Derived.Test.Qxb6604447aGreatFmtMem
import Derived.Deep.OwnRows
import Derived.Lib.SliceRun
namespace Go.Proofs.Qxb6604447aGreatFmt
set_option maxRecDepth 1000000
open Go.RowKit Go.Lib

theorem info39 : ∃ i, Tryz.prog.info? 39 = some i ∧ i.zero = some (.agg #[.string ⟨#[]⟩, .int .u8 0, .string ⟨#[]⟩, .slice none 0 0]) ∧ i.size = 4 ∧ i.bytes = 64 := ⟨_, rfl, rfl, rfl, rfl⟩
theorem info9c : (Tryz.prog.info? 9).map (fun i => (i.zero, i.size, i.bytes)) = some (some (.string ⟨#[]⟩), 1, 16) := by kernel_rfl
def zero4 : Array Value := #[.string ⟨#[]⟩, .int .u8 0, .string ⟨#[]⟩, .slice none 0 0]
theorem make39 (n : Nat) (hn : n ≤ 1048576) (w : World) : (Instr.makeSlice 22 (.int .i64 (n : Int)) (.int .i64 (n : Int))).run Tryz.prog w = .ok (.slice (some ⟨w.heap.size, 0, none⟩) n n) (w.alloc (.cells (madeCells zero4 (n * 4)) 39)) := by
  obtain ⟨i, hi, hz, hs, hb⟩ := info39
  have := run_make (P := Tryz.prog) w 22 39 i _ Tryz.underlying22 hi hz .i64 .i64 n n (by omega) (Int.le_refl _) (by rw [hb]; omega) (by omega)
  rw [this, hs]; rfl
theorem make37 (n : Nat) (hn : n ≤ 1048576) (w : World) : (Instr.makeSlice 37 (.int .i64 (n : Int)) (.int .i64 (n : Int))).run Tryz.prog w = .ok (.slice (some ⟨w.heap.size, 0, none⟩) n n) (w.alloc (.cells (madeCells #[.string ⟨#[]⟩] n) 9)) :=
  run_make_row' 37 9 (.string ⟨#[]⟩) 16 Tryz.underlying37 info9c rfl .i64 .i64 n (by omega) (by omega) w

/-- A slice of strings in a block behind B. -/
def LF (B : Nat) (v : Value) (ls : List ByteArray) (W : World) : Prop :=
  ∃ ao c, v = .slice ao ls.length c ∧ (ao = none → c = 0 ∧ ls = []) ∧ ∀ (j : Nat) s, ls[j]? = some s → ∃ b o, ao = some ⟨b, o, none⟩ ∧ B < b ∧ W.cell? ⟨b, o + j, none⟩ = some (.string s)
theorem LF.toLV {B : Nat} {v : Value} {ls : List ByteArray} {W : World} (h : LF B v ls W) : LV v ls W := by
  obtain ⟨ao, c, h1, h2, h3⟩ := h
  refine ⟨ao, c, h1, h2, fun j s hj => ?_⟩
  obtain ⟨b, o, h4, _, h5⟩ := h3 j s hj
  exact ⟨b, o, h4, h5⟩
theorem LF.keep {B : Nat} {v : Value} {ls : List ByteArray} {W W' : World} (h : LF B v ls W) (hk : ∀ b, B < b → b < W.heap.size → W'.heap[b]? = W.heap[b]?) : LF B v ls W' := by
  obtain ⟨ao, c, h1, h2, h3⟩ := h
  refine ⟨ao, c, h1, h2, fun j s hj => ?_⟩
  obtain ⟨b, o, h4, h6, h5⟩ := h3 j s hj
  exact ⟨b, o, h4, h6, (World.cell?_of_block (w := W) (hk b h6 (World.block_lt_of_cell? W _ h5))).trans h5⟩
/-- What the clone's row holds when k members are copied. -/
structure CF (B n : Nat) (ms : List Mem) (k : Nat) (f : Nat → Value) (W : World) : Prop where
  done : ∀ (j : Nat) m, j < k → ms[j]? = some m → f (j * 4) = .string m.name ∧ f (j * 4 + 1) = .int .u8 (m.kind : Int) ∧ f (j * 4 + 2) = .string m.text ∧ LF B (f (j * 4 + 3)) m.list W
  left : ∀ (j : Nat), k ≤ j → j < n → f (j * 4 + 3) = .slice none 0 0
/-- The loop's relation. -/
def CI (ms : List Mem) (n : Nat) (W0 : World) (g : Nat) (s4 : Value) (wx : World) : Prop :=
  ∃ k : Nat, g + k = n ∧ s4 = .int .i64 k ∧ Below W0.heap.size W0 wx ∧ ∃ f, wx.rowIs W0.heap.size 39 (n * 4) f ∧ CF W0.heap.size n ms k f wx
/-- Three cells of a member stored. -/
def upd3 (f : Nat → Value) (p : Nat) (a b c : Value) : Nat → Value := fun j => if j = p + 2 then c else if j = p + 1 then b else if j = p then a else f j
section
variable (f : Nat → Value) (p : Nat) (a b c : Value)
theorem upd3_out {j : Nat} (h : j < p ∨ p + 3 ≤ j) : upd3 f p a b c j = f j := by unfold upd3; rw [if_neg (by omega), if_neg (by omega), if_neg (by omega)]
theorem upd3_0 : upd3 f p a b c p = a := by unfold upd3; rw [if_neg (by omega), if_neg (by omega), if_pos rfl]
theorem upd3_1 : upd3 f p a b c (p + 1) = b := by unfold upd3; rw [if_neg (by omega), if_pos rfl]
theorem upd3_2 : upd3 f p a b c (p + 2) = c := by unfold upd3; rw [if_pos rfl]
end
theorem madeRow (W : World) (n : Nat) : (W.alloc (.cells (madeCells zero4 (n * 4)) 39)).rowIs W.heap.size 39 (n * 4) (fun i => zero4[i % 4]!) := by
  refine ⟨_, Go.Deep.blk_alloc_new _ _, size_madeCells _ _, fun i hi => ?_⟩
  simp [madeCells, hi]; rfl
theorem ci_start (ms : List Mem) (n : Nat) (W : World) : CI ms n W n (.int .i64 ((0 : Nat) : Int)) (W.alloc (.cells (madeCells zero4 (n * 4)) 39)) := by
  refine ⟨0, by omega, rfl, (Below.refl _ _).alloc (Nat.le_refl _) _, _, madeRow W n, ⟨fun j m hj => by omega, fun j _ hj => ?_⟩⟩
  rw [show (j * 4 + 3) % 4 = 3 by omega]; rfl

/-- All blocks but B are as they were. -/
structure FR (B : Nat) (w w' : World) : Prop where
  os : w'.os = w.os
  tape : w'.tape = w.tape
  output : w'.output = w.output
  size : w.heap.size ≤ w'.heap.size
  blk : ∀ i, i < w.heap.size → i ≠ B → w'.heap[i]? = w.heap[i]?
theorem FR.refl (B : Nat) (w : World) : FR B w w := ⟨rfl, rfl, rfl, Nat.le_refl _, fun _ _ _ => rfl⟩
theorem FR.set {B : Nat} {w w' : World} (h : FR B w w') (o : Nat) (x : Value) : FR B w (w'.setCell ⟨B, o, none⟩ x) :=
  ⟨h.os, h.tape, h.output, by rw [Go.Deep.nblk_setCell]; exact h.size, fun i hi hne => (Go.Deep.blk_setCell_other _ _ _ _ hne).trans (h.blk i hi hne)⟩
theorem FR.setNew {B B2 : Nat} {w w' : World} (h : FR B w w') (hB : w.heap.size ≤ B2) (o : Nat) (x : Value) : FR B w (w'.setCell ⟨B2, o, none⟩ x) :=
  ⟨h.os, h.tape, h.output, by rw [Go.Deep.nblk_setCell]; exact h.size, fun i hi hne => (Go.Deep.blk_setCell_other _ _ _ _ (by show i ≠ B2; omega)).trans (h.blk i hi hne)⟩
theorem FR.alloc {B : Nat} {w w' : World} (h : FR B w w') (o : Obj) : FR B w (w'.alloc o) :=
  ⟨h.os, h.tape, h.output, by rw [Go.Deep.nblk_alloc]; have := h.size; omega, fun i hi hne => (Go.Deep.blk_alloc_lt _ _ _ (by have := h.size; omega)).trans (h.blk i hi hne)⟩
theorem FR.below {W w w' : World} (h : FR W.heap.size w w') (hb : Below W.heap.size W w) : Below W.heap.size W w' :=
  ⟨h.os.trans hb.os, h.tape.trans hb.tape, h.output.trans hb.output, Nat.le_trans hb.size h.size, fun i hi => (h.blk i (by have := hb.size; omega) (by omega)).trans (hb.block i hi)⟩
/-- One member more is copied. -/
theorem CF.next {B n : Nat} {ms : List Mem} {k : Nat} {f f' : Nat → Value} {w w' : World} (h : CF B n ms k f w) {m : Mem} (hm : ms[k]? = some m) (hfr : FR B w w')
    (hout : ∀ j, j < k * 4 ∨ k * 4 + 4 ≤ j → f' j = f j) (h0 : f' (k * 4) = .string m.name) (h1 : f' (k * 4 + 1) = .int .u8 (m.kind : Int)) (h2 : f' (k * 4 + 2) = .string m.text) (h3 : LF B (f' (k * 4 + 3)) m.list w') : CF B n ms (k + 1) f' w' where
  done := fun j m' hj hm' => by
    by_cases e : j = k
    · subst e
      rw [hm] at hm'
      cases hm'
      exact ⟨h0, h1, h2, h3⟩
    · obtain ⟨a0, a1, a2, a3⟩ := h.done j m' (by omega) hm'
      exact ⟨(hout _ (by omega)).trans a0, (hout _ (by omega)).trans a1, (hout _ (by omega)).trans a2, by rw [hout _ (by omega)]; exact a3.keep fun b hb hl => hfr.blk b hl (by omega)⟩
  left := fun j hj hl => (hout _ (by omega)).trans (h.left j (by omega) hl)
/-- The inner loop's relation. -/
def II (ls : List ByteArray) (ln B n : Nat) (f3 : Nat → Value) (wr : World) (g : Nat) (s6 : Value) (wx : World) : Prop :=
  ∃ j : Nat, g + j = ln ∧ s6 = .int .i64 j ∧ FR B wr wx ∧ wx.rowIs B 39 (n * 4) f3 ∧ wx.rowIs wr.heap.size 9 ln (fun t => if t < j then .string (ls.getD t ⟨#[]⟩) else .string ⟨#[]⟩)

set_option maxHeartbeats 4000000 in
theorem cloneW (v : Value) (ms : List Mem) (W : World) (hn : ms.length ≤ 1048576) (hsm : ∀ m ∈ ms, m.small) (hv : MV v ms W) :
    Calls Tryz.prog 8 #[v] W fun e W' => ∃ v', e = .returned v' ∧ MV v' ms W' ∧ Below W.heap.size W W' := by
  have heq : ∀ (w : World) (a : Option Addr) (n c : Nat), (binOp .eql 22 (.slice a n c) (.slice none 0 0)).run Tryz.prog w = .ok (.bool a.isNone) w := fun w a n c => run_eql_slice_nil w 22 39 a n c 0 0 Tryz.underlying22
  obtain ⟨ao, c, rfl, hnil, hel⟩ := hv
  cases ao with
  | none =>
    obtain ⟨rfl, rfl⟩ := hnil rfl
    clear hnil hel
    go_enter Tryz.func8, Tryz.ntmps8
    go_wp2_with fail
    go_ret
    exact ⟨_, rfl, ⟨none, 0, rfl, fun _ => ⟨rfl, rfl⟩, fun j m hj => by simp at hj⟩, Below.refl _ _⟩
  | some ad =>
    have HEL : Aside (∀ (j : Nat) m, ms[j]? = some m → ∃ b o, some ad = some ⟨b, o, none⟩ ∧ MC b (o + j * 4) m W) := hel
    have HSM : Aside (∀ m ∈ ms, m.small) := hsm
    obtain ⟨n, hnn⟩ : ∃ n, ms.length = n := ⟨_, rfl⟩
    rw [hnn] at hn ⊢
    have HN : Aside (ms.length = n) := hnn
    have hmk := make39 n hn
    clear hel hsm hnn hnil
    go_enter Tryz.func8, Tryz.ntmps8
    go_wp2_with fail
    go_loopg [4] n (CI ms n W)
    case atStart => exact ci_start ms n W
    case round =>
      obtain ⟨k, hk, rfl, hb, f, hrow, hcf⟩ := hrel
      have HB : Aside (Below W.heap.size W wr) := hb
      have HROW : Aside (wr.rowIs W.heap.size 39 (n * 4) f) := hrow
      have HCF : Aside (CF W.heap.size n ms k f wr) := hcf
      by_cases hlt : k < n
      · have h2 : (k : Int) < (n : Int) := by omega
        obtain ⟨m, hm, hdr⟩ := at_lt (l := ms) (k := k) (by rw [HN.out]; exact hlt)
        have HM : Aside (ms[k]? = some m) := hm
        obtain ⟨b, o, e, mc⟩ := HEL.out k m hm
        cases e
        obtain ⟨z1, z2, z3, z4⟩ := HSM.out m (List.mem_of_getElem? hm)
        have hbl : b < W.heap.size := World.block_lt_of_cell? W _ mc.c0
        have mcr := mc.below hb
        obtain ⟨nm, kd, tx, ls⟩ := m
        have c0 : wr.cell? ⟨b, o + k * 4, none⟩ = some (.string nm) := mcr.c0
        have c1 : wr.cell? ⟨b, o + k * 4 + 1, none⟩ = some (.int .u8 (kd : Int)) := mcr.c1
        have c2 : wr.cell? ⟨b, o + k * 4 + 2, none⟩ = some (.string tx) := mcr.c2
        obtain ⟨lv, c3w, lao, lc, rfl, lnil, lel⟩ := mc.c3
        have c3 : wr.cell? ⟨b, o + k * 4 + 3, none⟩ = some (.slice lao ls.length lc) := (hb.cell hbl).trans c3w
        obtain ⟨B, hB⟩ : ∃ B, W.heap.size = B := ⟨_, rfl⟩
        rw [hB] at hbl hrow
        have hne : ¬ b = B := by omega
        have hfar : ∀ (w : World) (p q : Nat) (x : Value), (w.setCell ⟨B, p, none⟩ x).cell? ⟨b, q, none⟩ = w.cell? ⟨b, q, none⟩ := fun w p q x => World.cell?_of_block (w := w) (Go.Deep.blk_setCell_other _ _ _ _ hne)
        have y0 := hrow.cell (i := k * 4) (by omega)
        have y1 := hrow.cell (i := k * 4 + 1) (by omega)
        have y2 := hrow.cell (i := k * 4 + 2) (by omega)
        have y3 := hrow.cell (i := k * 4 + 3) (by omega)
        have r0 := hrow.frozen (k * 4)
        have r1 := hrow.frozen (k * 4 + 1)
        have r2 := hrow.frozen (k * 4 + 2)
        have r3 := hrow.frozen (k * 4 + 3)
        simp only at z1 z2 z3 z4 lnil lel
        clear c3w mc mcr hm hdr hb hrow hcf hmk
        cases lao with
        | none =>
          obtain ⟨rfl, rfl⟩ := lnil rfl
          rw [List.length_nil] at c3
          clear lnil lel
          go_wp2_with fail
          go_roundg (gk - 1)
          case measure => omega
          case rel =>
            have hfr : FR B wr (((wr.setCell ⟨B, k * 4, none⟩ (.string nm)).setCell ⟨B, k * 4 + 1, none⟩ (.int .u8 (kd : Int))).setCell ⟨B, k * 4 + 2, none⟩ (.string tx)) := (((FR.refl B wr).set _ _).set _ _).set _ _
            have hrw := HROW.out
            have hcf := HCF.out
            rw [hB] at hrw hcf
            have hfb := FR.below (W := W) (by rw [hB]; exact hfr) HB.out
            refine ⟨k + 1, by omega, rfl, hfb, upd3 f (k * 4) (.string nm) (.int .u8 (kd : Int)) (.string tx), ?_, ?_⟩
            · rw [hB]; exact ((hrw.set (k * 4) _).set (k * 4 + 1) _).set (k * 4 + 2) _
            · rw [hB]
              refine hcf.next HM.out hfr (fun j hj => ?_) ?_ ?_ ?_ ?_
              · exact upd3_out _ _ _ _ _ (by omega)
              · exact upd3_0 _ _ _ _ _
              · exact upd3_1 _ _ _ _ _
              · exact upd3_2 _ _ _ _ _
              · rw [upd3_out _ _ _ _ _ (by omega), hcf.left k (Nat.le_refl _) hlt]
                exact ⟨none, 0, rfl, fun _ => ⟨rfl, rfl⟩, fun j s hj => by simp at hj⟩
        | some lad =>
          have LEL : Aside (∀ (j : Nat) s, ls[j]? = some s → ∃ b o, some lad = some ⟨b, o, none⟩ ∧ W.cell? ⟨b, o + j, none⟩ = some (.string s)) := lel
          obtain ⟨ln, hln⟩ : ∃ ln, ls.length = ln := ⟨_, rfl⟩
          rw [hln] at c3 z3
          have HLN : Aside (ls.length = ln) := hln
          have hmk := make37 ln z3
          have HBA : Aside (W.heap.size = B) := hB
          have hbw : B < wr.heap.size := by have := HROW.out.lt; omega
          obtain ⟨w1, e1⟩ : ∃ w1 : World, w1 = wr := ⟨_, rfl⟩
          subst e1
          have FR3 : Aside (FR B w1 (((w1.setCell ⟨B, k * 4, none⟩ (.string nm)).setCell ⟨B, k * 4 + 1, none⟩ (.int .u8 (kd : Int))).setCell ⟨B, k * 4 + 2, none⟩ (.string tx))) := (((FR.refl B w1).set _ _).set _ _).set _ _
          have hrw := HROW.out
          rw [hB] at hrw
          have RW3 : Aside ((((w1.setCell ⟨B, k * 4, none⟩ (.string nm)).setCell ⟨B, k * 4 + 1, none⟩ (.int .u8 (kd : Int))).setCell ⟨B, k * 4 + 2, none⟩ (.string tx)).rowIs B 39 (n * 4) (upd3 f (k * 4) (.string nm) (.int .u8 (kd : Int)) (.string tx))) := ((hrw.set (k * 4) _).set (k * 4 + 1) _).set (k * 4 + 2) _
          clear lel lnil hln z4 hrw
          go_wp2_with fail
          go_loopg [6] ln (II ls ln B n (upd3 f (k * 4) (.string nm) (.int .u8 (kd : Int)) (.string tx)) w1)
          case atStart =>
            refine ⟨0, by omega, rfl, FR3.out.alloc _, RW3.out.alloc _, ?_⟩
            have h7 := World.rowIs_made (((w1.setCell ⟨B, k * 4, none⟩ (.string nm)).setCell ⟨B, k * 4 + 1, none⟩ (.int .u8 (kd : Int))).setCell ⟨B, k * 4 + 2, none⟩ (.string tx)) (.string ⟨#[]⟩) ln 9
            rw [Go.Deep.nblk_setCell, Go.Deep.nblk_setCell, Go.Deep.nblk_setCell] at h7
            exact h7.congr fun i _ => by rw [if_neg (by omega)]
          case round =>
            obtain ⟨j, hj, rfl, fr, row1, row2⟩ := hrel
            have FRI : Aside (FR B w1 wr) := fr
            have ROW1 : Aside (wr.rowIs B 39 (n * 4) (upd3 f (k * 4) (.string nm) (.int .u8 (kd : Int)) (.string tx))) := row1
            have ROW2 : Aside (wr.rowIs w1.heap.size 9 ln (fun t => if t < j then .string (ls.getD t ⟨#[]⟩) else .string ⟨#[]⟩)) := row2
            have x3 : wr.cell? ⟨b, o + k * 4 + 3, none⟩ = some (.slice (some lad) ln lc) := (World.cell?_of_block (w := w1) (fr.blk b (by omega) hne)).trans c3
            by_cases hjt : j < ln
            · have h3 : (j : Int) < (ln : Int) := by omega
              obtain ⟨s, hs, _⟩ := at_lt (l := ls) (k := j) (by rw [HLN.out]; exact hjt)
              have HS : Aside (ls[j]? = some s) := hs
              obtain ⟨lb, lo, e2, xw⟩ := LEL.out j s hs
              cases e2
              have hlb : lb < W.heap.size := World.block_lt_of_cell? W _ xw
              have xs : wr.cell? ⟨lb, lo + j, none⟩ = some (.string s) := (World.cell?_of_block (w := w1) (fr.blk lb (by omega) (by omega))).trans ((HB.out.cell hlb).trans xw)
              have q2 := row2.cell (i := j) hjt
              have p2 := row2.frozen j
              clear fr row1 row2 hs xw y0 y1 y2 y3 r0 r1 r2 r3 c0 c1 c2 c3 hmk
              go_wp2_with fail
              go_roundg (gk - 1)
              case measure => omega
              case rel =>
                refine ⟨j + 1, by omega, rfl, FRI.out.setNew (Nat.le_refl _) _ _, ROW1.out.setOther (by show B ≠ w1.heap.size; omega) _, ?_⟩
                refine (ROW2.out.set j (.string s)).congr fun t ht => ?_
                have hsg : ls.getD j ⟨#[]⟩ = s := by simp [List.getD, HS.out]
                by_cases e5 : t = j
                · subst e5; rw [if_pos rfl, if_pos (by omega), hsg]
                · rw [if_neg e5]
                  by_cases e6 : t < j
                  · rw [if_pos e6, if_pos (by omega)]
                  · rw [if_neg e6, if_neg (by omega)]
            · have h3 : decide ((j : Int) < (ln : Int)) = false := by simp; omega
              have q3 := row1.cell (i := k * 4 + 3) (by omega)
              have p3 := row1.frozen (k * 4 + 3)
              clear fr row1 row2 y0 y1 y2 y3 r0 r1 r2 r3 c0 c1 c2 c3 hmk
              go_wp2_with fail
              go_roundg (n - (k + 1))
              case measure => omega
              case rel =>
                have hfr : FR B w1 (wr.setCell ⟨B, k * 4 + 3, none⟩ (.slice (some ⟨w1.heap.size, 0, none⟩) ln ln)) := FRI.out.set _ _
                have hcf := HCF.out
                have hfb := FR.below (W := W) (by rw [HBA.out]; exact hfr) HB.out
                rw [HBA.out] at hcf
                refine ⟨k + 1, by omega, rfl, hfb, fun i => if i = k * 4 + 3 then .slice (some ⟨w1.heap.size, 0, none⟩) ln ln else upd3 f (k * 4) (.string nm) (.int .u8 (kd : Int)) (.string tx) i, ?_, ?_⟩
                · rw [HBA.out]; exact ROW1.out.set (k * 4 + 3) _
                · rw [HBA.out]
                  refine hcf.next HM.out hfr (fun i hi => ?_) ?_ ?_ ?_ ?_
                  · show (if i = k * 4 + 3 then _ else _) = _
                    rw [if_neg (by omega)]; exact upd3_out _ _ _ _ _ (by omega)
                  · show (if k * 4 = k * 4 + 3 then _ else _) = _
                    rw [if_neg (by omega)]; exact upd3_0 _ _ _ _ _
                  · show (if k * 4 + 1 = k * 4 + 3 then _ else _) = _
                    rw [if_neg (by omega)]; exact upd3_1 _ _ _ _ _
                  · show (if k * 4 + 2 = k * 4 + 3 then _ else _) = _
                    rw [if_neg (by omega)]; exact upd3_2 _ _ _ _ _
                  · show LF B (if k * 4 + 3 = k * 4 + 3 then _ else _) ls _
                    rw [if_pos rfl]
                    refine ⟨some ⟨w1.heap.size, 0, none⟩, ln, by rw [HLN.out], fun e => by (cases e), fun t s ht => ⟨w1.heap.size, 0, rfl, hbw, ?_⟩⟩
                    have htl : t < ln := by rw [← HLN.out]; exact (List.getElem?_eq_some_iff.1 ht).1
                    have h8 := ROW2.out.cell htl
                    rw [if_pos (by omega)] at h8
                    have h9 : (wr.setCell ⟨B, k * 4 + 3, none⟩ (.slice (some ⟨w1.heap.size, 0, none⟩) ln ln)).cell? ⟨w1.heap.size, t, none⟩ = wr.cell? ⟨w1.heap.size, t, none⟩ := World.cell?_of_block (w := wr) (Go.Deep.blk_setCell_other _ _ _ _ (by show w1.heap.size ≠ B; omega))
                    rw [Nat.zero_add, h9, h8]
                    simp [List.getD, ht]
      · have h2 : decide ((k : Int) < (n : Int)) = false := by simp; omega
        clear hb hrow hcf hmk
        go_wp2_with fail
        go_ret
        refine ⟨.slice (some ⟨W.heap.size, 0, none⟩) n n, rfl, ⟨some ⟨W.heap.size, 0, none⟩, n, by rw [HN.out], fun e => by (cases e), fun j m hj => ⟨W.heap.size, 0, rfl, ?_⟩⟩, HB.out⟩
        have hjn : j < n := by rw [← HN.out]; exact (List.getElem?_eq_some_iff.1 hj).1
        obtain ⟨a0, a1, a2, a3⟩ := HCF.out.done j m (by omega) hj
        obtain ⟨b0, o0, _, mc0⟩ := HEL.out j m hj
        rw [Nat.zero_add]
        refine ⟨?_, ?_, ?_, ⟨_, HROW.out.cell (i := j * 4 + 3) (by omega), a3.toLV⟩, mc0.hk⟩
        · rw [HROW.out.cell (i := j * 4) (by omega), a0]
        · rw [HROW.out.cell (i := j * 4 + 1) (by omega), a1]
        · rw [HROW.out.cell (i := j * 4 + 2) (by omega), a2]
end Go.Proofs.Qxb6604447aGreatFmt
