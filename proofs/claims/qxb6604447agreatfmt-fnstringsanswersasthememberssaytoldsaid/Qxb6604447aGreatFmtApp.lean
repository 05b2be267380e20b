/-
  append onto a row of bytes of the call's own, as the walks use it; the walks of zzHexDigit and zzAppendString.
-/
import Derived.Test.Qxb6604447aGreatFmtRd
import Derived.Test.Qxb6604447aGreatFmtPlain
import Derived.Maps.AppendAt
import Derived.Deep.RegionLaw
namespace Go.Proofs.Qxb6604447aGreatFmt
set_option maxRecDepth 1000000
open Go.RowKit Go.Lib

/-- The value v owns a row with the bytes bs at its head. -/
def Own (v : Value) (bs : List UInt8) (W : World) : Prop := W.ownsRow 0 5 1 v bs.length (Lib.byteCells bs)

/-- What a step that appends to v keeps: every block but v's; the new value lies in v's block or in a new one. -/
structure Gr (v : Value) (W : World) (v' : Value) (W' : World) : Prop where
  os : W'.os = W.os
  tape : W'.tape = W.tape
  output : W'.output = W.output
  size : W.heap.size ≤ W'.heap.size
  keep : ∀ k, k < W.heap.size → v.ownBlock ≠ some k → W'.heap[k]? = W.heap[k]?
  buf : ∀ k, v'.ownBlock = some k → v.ownBlock = some k ∨ W.heap.size ≤ k
theorem Gr.refl (v : Value) (W : World) : Gr v W v W := ⟨rfl, rfl, rfl, Nat.le_refl _, fun _ _ _ => rfl, fun _ h => Or.inl h⟩
theorem Gr.trans {a b c : Value} {W W' W'' : World} (h : Gr a W b W') (k : Gr b W' c W'') : Gr a W c W'' where
  os := k.os.trans h.os
  tape := k.tape.trans h.tape
  output := k.output.trans h.output
  size := Nat.le_trans h.size k.size
  keep := fun i hi hb => (k.keep i (Nat.lt_of_lt_of_le hi h.size) (fun e => by
    rcases h.buf i e with e | e
    · exact hb e
    · omega)).trans (h.keep i hi hb)
  buf := fun i e => by
    rcases k.buf i e with e | e
    · exact h.buf i e
    · exact Or.inr (Nat.le_trans h.size e)
theorem Gr.alloc {a b : Value} {W W' : World} (h : Gr a W b W') (o : Obj) : Gr a W b (W'.alloc o) := h.trans ⟨rfl, rfl, rfl, by simp, fun k hk _ => Below.heap_alloc _ _ _ hk, fun _ e => Or.inl e⟩
theorem Gr.like {v : Value} {W X : World} (o : Obj) (h1 : X.os = W.os) (h2 : X.tape = W.tape) (h3 : X.output = W.output) (h4 : X.heap = W.heap.push o) : Gr v W v X :=
  ⟨h1, h2, h3, by rw [h4]; simp, fun k hk _ => by rw [h4, Array.getElem?_push, if_neg (by omega)], fun _ e => Or.inl e⟩
theorem Gr.same {v : Value} {W X : World} (h1 : X.os = W.os) (h2 : X.tape = W.tape) (h3 : X.output = W.output) (h4 : X.heap = W.heap) : Gr v W v X :=
  ⟨h1, h2, h3, by rw [h4]; exact Nat.le_refl _, fun k hk _ => by rw [h4], fun _ e => Or.inl e⟩
theorem Gr.drewN {a b : Value} {W W' : World} (h : Gr a W b W') (n : Nat) : Gr a W b (W'.drewN n) := h.trans ⟨rfl, rfl, rfl, Nat.le_refl _, fun _ _ _ => rfl, fun _ e => Or.inl e⟩
theorem Gr.toSt {a b : Value} {W W' : World} (h : Gr a W b W') (R : Nat) : St R a W b W' := ⟨h.os, h.tape, h.output, h.size, fun k hk _ hb => h.keep k hk hb, h.buf⟩
theorem Own.keep {v : Value} {bs : List UInt8} {W W' : World} (h : Own v bs W) (hk : ∀ k, v.ownBlock = some k → W'.heap[k]? = W.heap[k]?) : Own v bs W' := ownsRow_keep h hk
theorem Own.lt {v : Value} {bs : List UInt8} {W : World} (h : Own v bs W) {k : Nat} (hk : v.ownBlock = some k) : k < W.heap.size := by
  rcases h.2 with ⟨rfl, _⟩ | ⟨g, cap, cur, rfl, _, hg, _⟩
  · cases hk
  · have e : g = k := Option.some.inj hk
    rw [← e]; exact (Array.getElem?_eq_some_iff.1 hg).1
theorem Own.alloc {v : Value} {bs : List UInt8} {W : World} (h : Own v bs W) (o : Obj) : Own v bs (W.alloc o) := h.keep fun _ hk => Below.heap_alloc _ _ _ (h.lt hk)
theorem Own.shape {v : Value} {bs : List UInt8} {W : World} (h : Own v bs W) (h0 : 0 < bs.length) : ∃ g cap, v = .slice (some ⟨g, 0, none⟩) bs.length cap := by
  rcases h.2 with ⟨_, h1⟩ | ⟨g, cap, cur, hv, _⟩
  · omega
  · exact ⟨g, cap, hv⟩
theorem own_nil (W : World) : Own (.slice none 0 0) [] W := World.ownsRow_nil W 0 5 1

/-- The cells from ad on hold the bytes news. -/
def NewsAt (W : World) (ad : Addr) (news : List UInt8) : Prop := ∀ (j : Nat) (b : UInt8), news[j]? = some b → W.cell? (ad.add j) = some (.int .u8 (b.toNat : Int))
/-- A value of n elements is no nil slice. -/
def Shp (v : Value) (n : Nat) : Prop := 0 < n → ∃ g cap, v = .slice (some ⟨g, 0, none⟩) n cap
theorem Shp.get {v : Value} {n : Nat} (h : Shp v n) (h0 : 0 < n) : ∃ g cap, v = .slice (some ⟨g, 0, none⟩) n cap := h h0

theorem info5 : ∃ i, Tryz.prog.info? 5 = some i ∧ i.zero = some (.int .u8 0) ∧ i.size = 1 ∧ i.bytes = 1 := ⟨_, rfl, rfl, rfl, rfl⟩

section
variable {ops : Array Oper} {rest : List Oper} {o : Oper} {a : Act} {Q : Exit → Act → World → Prop} {K : Act → World → Prop} {E : Prop}
theorem run_app (W : World) (ty : TypeId) (v : Value) (bs : List UInt8) (hown : Own v bs W)
    (ad : Addr) (m c : Nat) (news : List UInt8) (hl : news.length = m) (hnews : ∀ (j : Nat) (b : UInt8), news[j]? = some b → W.cell? (ad.add j) = some (.int .u8 (b.toNat : Int)))
    (hb : bs.length + m ≤ 70368744177664) :
    ∃ v' W', (Builtin.append_ #[25, 25] ty #[v, .slice (some ad) m c]).run Tryz.prog W = .ok v' W' ∧ Own v' (bs ++ news) W' ∧ Gr v W v' W' ∧ (0 < bs.length + m → ∃ g cap, v' = .slice (some ⟨g, 0, none⟩) (bs.length + m) cap) := by
  obtain ⟨i, hi, hz, hs1, hs2⟩ := info5
  obtain ⟨v', W', hr, ho, hg, _, hat⟩ := run_append_own_at (P := Tryz.prog) W 0 25 ty 5 i (.int .u8 0) 1 1 Tryz.underlying25 hi hz hs1 hs2 rfl (by decide) v bs.length (Lib.byteCells bs) hown ad m c (Lib.byteCells news)
    (by simp [Lib.byteCells, hl]) (fun j u hj => by
      simp only [Lib.byteCells, List.getElem?_map, Option.map_eq_some_iff] at hj
      obtain ⟨b, h1, rfl⟩ := hj
      exact hnews j b h1) (fun u hu => by
      simp only [Lib.byteCells, List.mem_map] at hu
      obtain ⟨b, _, rfl⟩ := hu; rfl) (by unfold maxLen; omega) (by omega) (Nat.zero_le _)
  have e1 : Lib.byteCells bs ++ Lib.byteCells news = Lib.byteCells (bs ++ news) := by simp [Lib.byteCells]
  have e2 : bs.length + m = (bs ++ news).length := by simp [hl]
  rw [e1, e2] at ho
  refine ⟨v', W', hr, ho, ⟨hg.os, hg.tape, hg.output, hg.size, fun k hk hne => hg.block k hk (fun e => hne e.symm), fun k hk => ?_⟩, fun h0 => ?_⟩
  · rcases hat with hat | hat
    · rw [hat] at hk; exact Or.inl hk
    · rw [hat] at hk; exact Or.inr (Nat.le_of_eq (Option.some.inj hk))
  · obtain ⟨g, cap, hv⟩ := Own.shape ho (by omega)
    exact ⟨g, cap, by rw [hv, e2]⟩
/-- append, in a walk. -/
theorem wpl_app (W : World) (hgd : o.guard = none) (s x : Operand) (ho : o.op = .call { callee := .builtin .append, args := #[s, x], argTypes := #[25, 25] })
    (v : Value) (bs : List UInt8) (hs : a.eval s = v) (hown : Own v bs W)
    (ad : Addr) (m c : Nat) (news : List UInt8) (hx : a.eval x = .slice (some ad) m c) (hl : news.length = m) (hnews : NewsAt W ad news)
    (hb : bs.length + m ≤ 70368744177664)
    (h : ∀ v' W', Own v' (bs ++ news) W' → Gr v W v' W' → Shp v' (bs.length + m) → wpList Tryz.prog ops Q rest (a.put o.dst v') W') :
    wpList Tryz.prog ops Q (o :: rest) a W := by
  refine wpList_plain hgd fun K hK => ?_
  obtain ⟨v', W', hr, h2, h3, h4⟩ := run_app W o.type v bs hown ad m c news hl hnews hb
  unfold Oper.wp execOp
  simp only [ho, resolve, invoke, builtin, Sem.run_bind, Sem.run_pure, Result.andThen_ok, List.map_toArray, List.map_cons, List.map_nil, hs, hx, hr]
  exact hK _ _ (h v' W' h2 h3 h4)
/-- append, as one step of a region that draws. -/
theorem step_app (W : World) (hgd : o.guard = none) (s x : Operand) (ho : o.op = .call { callee := .builtin .append, args := #[s, x], argTypes := #[25, 25] })
    (v : Value) (bs : List UInt8) (hs : a.eval s = v) (hown : Own v bs W)
    (ad : Addr) (m c : Nat) (news : List UInt8) (hx : a.eval x = .slice (some ad) m c) (hl : news.length = m) (hnews : NewsAt W ad news)
    (hb : bs.length + m ≤ 70368744177664)
    (h : ∀ v' W', Own v' (bs ++ news) W' → Gr v W v' W' → Shp v' (bs.length + m) → K (a.put o.dst v') W') :
    if Region.wanted o (yielded ops a.tmps) = true then Oper.wp Tryz.prog o a W K Q else E := by
  have hw : Region.wanted o (yielded ops a.tmps) = true := by simp [Region.wanted, hgd]
  rw [if_pos hw]
  obtain ⟨v', W', hr, h2, h3, h4⟩ := run_app W o.type v bs hown ad m c news hl hnews hb
  unfold Oper.wp execOp
  simp only [ho, resolve, invoke, builtin, Sem.run_bind, Sem.run_pure, Result.andThen_ok, List.map_toArray, List.map_cons, List.map_nil, hs, hx, hr]
  exact h v' W' h2 h3 h4
end

theorem hexW (d : Nat) (w : World) (hd : d < 16) : Calls Tryz.prog 27 #[.int .u8 (d : Int)] w fun e w' => e = .returned (.int .u8 (hexd d : Int)) ∧ w' = w := by
  by_cases h : d < 10
  · have h' : (d : Int) < 10 := by omega
    have HE : Hid (hexd d = 48 + d) := if_pos h
    go_enter Tryz.func27, Tryz.ntmps27
    go_wp2
    go_ret
    exact ⟨by rw [HE.out]; rfl, rfl⟩
  · have h' : ¬ (d : Int) < 10 := by omega
    have HE : Hid (hexd d = 87 + d) := if_neg h
    go_enter Tryz.func27, Tryz.ntmps27
    go_wp2
    go_ret
    exact ⟨congrArg (fun n : Int => Ending.returned (.int .u8 n)) (by rw [HE.out]; omega), rfl⟩
end Go.Proofs.Qxb6604447aGreatFmt
