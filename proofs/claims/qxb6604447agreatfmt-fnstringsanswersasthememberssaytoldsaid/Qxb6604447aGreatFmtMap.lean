/-
  A map with string keys and values of type any, as the reader fills it: what a look-up answers, what a store leaves.
-/
import Derived.Test.Qxb6604447aGreatFmtRd
import Derived.Maps.OwnOps
import Derived.MapFrom
namespace Go.Proofs.Qxb6604447aGreatFmt
set_option maxRecDepth 1000000
open Go.RowKit Go.Lib

/-- Block b is a map with the entries kvs, in this order. -/
def MapAt (b : Nat) (kvs : List (List UInt8 × Value)) (W : World) : Prop :=
  ∃ es clock, W.heap[b]? = some (.map es clock) ∧ es.toList.map (fun e => (e.key, e.val)) = kvs.map (fun kv => (Value.string ⟨kv.1.toArray⟩, kv.2))
theorem MapAt.keep {b : Nat} {kvs : List (List UInt8 × Value)} {W W' : World} (h : MapAt b kvs W) (e : W'.heap[b]? = W.heap[b]?) : MapAt b kvs W' := by
  obtain ⟨es, clock, h1, h2⟩ := h
  exact ⟨es, clock, e.trans h1, h2⟩
theorem MapAt.lt {b : Nat} {kvs : List (List UInt8 × Value)} {W : World} (h : MapAt b kvs W) : b < W.heap.size := by
  obtain ⟨es, clock, h1, _⟩ := h
  exact (Array.getElem?_eq_some_iff.1 h1).1
theorem MapAt.new (W : World) : MapAt W.heap.size [] (W.alloc (.map #[] 0)) := ⟨#[], 0, (MapKept.heap_alloc W _).1, rfl⟩

theorem str_beq (a b : List UInt8) : ((⟨a.toArray⟩ : ByteArray) == ⟨b.toArray⟩) = (a == b) := by
  by_cases h : a = b
  · subst h
    rw [(MapKept.bytes_beq _ _).2 rfl]; simp
  · have h1 : ¬ (⟨a.toArray⟩ : ByteArray) = ⟨b.toArray⟩ := fun e => h (by simpa using e)
    have h2 : ((⟨a.toArray⟩ : ByteArray) == ⟨b.toArray⟩) = false := by
      cases hb : ((⟨a.toArray⟩ : ByteArray) == ⟨b.toArray⟩) with
      | false => rfl
      | true => exact absurd ((MapKept.bytes_beq _ _).1 hb) h1
    rw [h2]; simp [h]
theorem findNow_str (k : List UInt8) : ∀ (l : List MapEntry) (kvs : List (List UInt8 × Value)) (i : Nat), l.map (fun e => (e.key, e.val)) = kvs.map (fun kv => (Value.string ⟨kv.1.toArray⟩, kv.2)) →
    (kvs.lookup k = none ∧ Instr.findNow .string (.string ⟨k.toArray⟩) l i = some none) ∨ ∃ j v, kvs.lookup k = some v ∧ Instr.findNow .string (.string ⟨k.toArray⟩) l i = some (some (j, v))
  | [], [], _, _ => Or.inl ⟨rfl, rfl⟩
  | [], _ :: _, _, h => by simp at h
  | _ :: _, [], _, h => by simp at h
  | e :: l, (k1, v1) :: kvs, i, h => by
    simp only [List.map_cons, List.cons.injEq, Prod.mk.injEq] at h
    obtain ⟨⟨h1, h2⟩, h3⟩ := h
    have hs : Instr.sameNow .string (.string ⟨k.toArray⟩) e.key = some (k == k1) := by
      rw [h1]
      show some ((⟨k.toArray⟩ : ByteArray) == ⟨k1.toArray⟩) = _
      rw [str_beq]
    cases hk : (k == k1) with
    | true => exact Or.inr ⟨i, v1, by simp [List.lookup, hk], by simp [Instr.findNow, hs, hk, h2]⟩
    | false =>
      rcases findNow_str k l kvs (i + 1) h3 with ⟨a, b⟩ | ⟨j, v, a, b⟩
      · exact Or.inl ⟨by simp [List.lookup, hk, a], by simp [Instr.findNow, hs, hk, b]⟩
      · exact Or.inr ⟨j, v, by simp [List.lookup, hk, a], by simp [Instr.findNow, hs, hk, b]⟩
theorem isKey_str (s : ByteArray) : MapKept.IsKey .string (.string s) := trivial

theorem MapAt.look {b : Nat} {kvs : List (List UInt8 × Value)} {W : World} (h : MapAt b kvs W) (t : TypeId) (ht : Tryz.prog.underlying t = some (.map 9 20)) (k : List UInt8) :
    (Instr.lookup t (.map (some b)) (.string ⟨k.toArray⟩) true).run Tryz.prog W = .ok (.tuple #[(kvs.lookup k).getD .nilIface, .bool (kvs.lookup k).isSome]) W := by
  obtain ⟨es, clock, h1, h2⟩ := h
  have hz : (zeroValue 20).run Tryz.prog W = .ok .nilIface W := rfl
  rcases findNow_str k es.toList kvs 0 h2 with ⟨a, f⟩ | ⟨j, v, a, f⟩
  · simp [Instr.lookup, run_underlying ht, MapKept.run_getObj_map h1, MapKept.run_checkKey Tryz.underlying9 (isKey_str _), MapKept.run_findKey Tryz.underlying9 f, hz, a, Result.andThen]
  · simp [Instr.lookup, run_underlying ht, MapKept.run_getObj_map h1, MapKept.run_checkKey Tryz.underlying9 (isKey_str _), MapKept.run_findKey Tryz.underlying9 f, a, Result.andThen]
theorem MapAt.upd {b : Nat} {kvs : List (List UInt8 × Value)} {W : World} (h : MapAt b kvs W) (k : List UInt8) (hk : kvs.lookup k = none) (v : Value) :
    ∃ W', (Instr.mapUpdate 27 (.map (some b)) (.string ⟨k.toArray⟩) v).run Tryz.prog W = .ok () W' ∧ MapAt b (kvs ++ [(k, v)]) W' ∧ W'.os = W.os ∧ W'.tape = W.tape ∧ W'.output = W.output ∧ W'.heap.size = W.heap.size ∧ ∀ i, i ≠ b → W'.heap[i]? = W.heap[i]? := by
  obtain ⟨es, clock, h1, h2⟩ := h
  rcases findNow_str k es.toList kvs 0 h2 with ⟨_, f⟩ | ⟨j, v, a, _⟩
  · refine ⟨{ W with heap := W.heap.setIfInBounds b (.map (es.push ⟨.string ⟨k.toArray⟩, v, clock⟩) (clock + 1)) }, ?_, ⟨es.push ⟨.string ⟨k.toArray⟩, v, clock⟩, clock + 1, (MapKept.heap_set h1).1, ?_⟩, ?_⟩
    · simp [Instr.mapUpdate, run_underlying Tryz.underlying27, MapKept.run_getObj_map h1, MapKept.run_checkKey Tryz.underlying9 (isKey_str _), MapKept.run_findKey Tryz.underlying9 f, MapKept.run_setObj_map _ h1, Result.andThen]
    · simp [h2]
    · refine ⟨rfl, rfl, rfl, by simp, fun i hi => ?_⟩
      simp [Ne.symm hi]
  · rw [hk] at a; cases a

section
variable {ops : Array Oper} {rest : List Oper} {o : Oper} {a : Act} {Q : Exit → Act → World → Prop}
/-- 'v, ok := m[k]', in a walk. -/
theorem wpl_look (W : World) (hgd : o.guard = none) (m x : Operand) (t : TypeId) (ho : o.op = .lookup t m x true) (ht : Tryz.prog.underlying t = some (.map 9 20))
    (b : Nat) (kvs : List (List UInt8 × Value)) (hm : a.eval m = .map (some b)) (hown : MapAt b kvs W) (k : List UInt8) (hx : a.eval x = .string ⟨k.toArray⟩)
    (v : Value) (f : Bool) (hv : (kvs.lookup k).getD .nilIface = v) (hf : (kvs.lookup k).isSome = f)
    (h : wpList Tryz.prog ops Q rest (a.put o.dst (.tuple #[v, .bool f])) W) : wpList Tryz.prog ops Q (o :: rest) a W := by
  refine wpList_plain hgd fun K hK => ?_
  have hr := hown.look t ht k
  rw [hv, hf] at hr
  unfold Oper.wp
  simp [execOp, ho, hm, hx, hr, Result.andThen]
  exact hK _ _ h
/-- What a store into block b keeps. -/
structure Put (b : Nat) (W W' : World) : Prop where
  os : W'.os = W.os
  tape : W'.tape = W.tape
  output : W'.output = W.output
  size : W'.heap.size = W.heap.size
  keep : ∀ i, i ≠ b → W'.heap[i]? = W.heap[i]?
/-- 'm[k] = v', in a walk. -/
theorem wpl_upd (W : World) (hgd : o.guard = none) (m x v : Operand) (ho : o.op = .mapUpdate 27 m x v)
    (b : Nat) (kvs : List (List UInt8 × Value)) (hm : a.eval m = .map (some b)) (hown : MapAt b kvs W) (k : List UInt8) (hx : a.eval x = .string ⟨k.toArray⟩) (hk : kvs.lookup k = none) (u : Value) (hu : a.eval v = u)
    (h : ∀ W', MapAt b (kvs ++ [(k, u)]) W' → Put b W W' → wpList Tryz.prog ops Q rest (a.put o.dst undef) W') : wpList Tryz.prog ops Q (o :: rest) a W := by
  refine wpList_plain hgd fun K hK => ?_
  obtain ⟨W', hr, h1, h2, h3, h4, h5, h6⟩ := hown.upd k hk u
  unfold Oper.wp
  simp [execOp, ho, hm, hx, hu, hr, Result.andThen]
  exact hK _ _ (h W' h1 ⟨h2, h3, h4, h5, h6⟩)
end
end Go.Proofs.Qxb6604447aGreatFmt
