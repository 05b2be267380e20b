/-
  An argument of type []Member, opened.
-/
import Derived.Test.Qxb6604447aGreatFmtMem
import Derived.Lib.SmallJoins
import Derived.Deep.Slices
namespace Go.Proofs.Qxb6604447aGreatFmt
set_option maxRecDepth 1000000
open Go.ChangeShapes Go.WideShapes Go.RowKit Go.Deep Go.Joins

instance : Inhabited Mem := ⟨⟨⟨#[]⟩, 0, ⟨#[]⟩, []⟩⟩
theorem cells39 : Tryz.prog.cellsOf 39 = 4 := by kernel_rfl
theorem cells9 : Tryz.prog.cellsOf 9 = 1 := by kernel_rfl
theorem cells5 : Tryz.prog.cellsOf 5 = 1 := by kernel_rfl
theorem cells37 : Tryz.prog.cellsOf 37 = 1 := by kernel_rfl
theorem list4 {α : Type} {cs : List α} (h : cs.length = 4) : ∃ c0 c1 c2 c3, cs = [c0, c1, c2, c3] := by
  match cs, h with
  | [c0, c1, c2, c3], _ => exact ⟨c0, c1, c2, c3, rfl⟩
theorem spot_none {W : World} {a : Addr} {x : Value} (h : W.cell? a = some x) : a = ⟨a.block, a.off, none⟩ := by
  obtain ⟨b, o, sp⟩ := a
  unfold World.cell? at h
  split at h
  · cases sp with
    | none => rfl
    | some k => simp at h
  · cases h
theorem range_get {α : Type} {n j : Nat} {S : Nat → α} {s : α} (h : ((List.range n).map S)[j]? = some s) : j < n ∧ s = S j := by
  have hj : j < n := by
    have := (List.getElem?_eq_some_iff.1 h).1
    simpa using this
  refine ⟨hj, ?_⟩
  simp [hj] at h
  exact h.symm

section
variable {H : Type} {enc : TypeId × Value → H} {W : World} {spare : Nat → Bool} {held : Bool}
theorem open_list {fuel : Nat} {v : Value} {x : DataW H × List MemPlace} (h : DataW.trod enc Tryz.prog W 0 spare held fuel 37 [v] = some x) : ∃ ls, LV v ls W := by
  rcases open_slice1 Tryz.underlying37 cells9 h with ⟨hcs, _⟩ | ⟨a, len, cap, m, n, V, D, Pl, hcs, _, hl, _, hmm, _, hV⟩
  · cases hcs
    exact ⟨[], none, 0, rfl, fun _ => ⟨rfl, rfl⟩, fun j s hj => (by simp at hj)⟩
  · cases hcs
    have hlm : len ≤ m := by rw [hmm]; split <;> omega
    obtain ⟨S, hS⟩ := choose_lt (n := len) (α := ByteArray) (p := fun i s => V i = .string s) (fun i hi => by
      obtain ⟨s, h1, _⟩ := DataW.trod_string Tryz.underlying9 (hV i (by omega)).2
      exact ⟨s, by simpa using h1⟩)
    refine ⟨(List.range len).map S, some a, cap, by simp, fun e => (by cases e), fun j s hj => ?_⟩
    obtain ⟨hjl, rfl⟩ := range_get hj
    have h0 := (hV 0 (by omega)).1
    have ha : a = ⟨a.block, a.off, none⟩ := spot_none (by simpa [Addr.add] using h0)
    refine ⟨a.block, a.off, by rw [← ha], ?_⟩
    have hj2 := (hV j (by omega)).1
    rw [hS j hjl, ha, add_plain] at hj2
    exact hj2
theorem open_member {fuel : Nat} {b o : Nat} {cs : List Value} {x : DataW H × List MemPlace} (hc : W.cells? 0 ⟨b, o, none⟩ 4 = some cs) (h : DataW.trod enc Tryz.prog W 0 spare held fuel 39 cs = some x) : ∃ m, MC b o m W := by
  obtain ⟨_, hlen, hcell⟩ := World.cells?_some hc
  obtain ⟨c0, c1, c2, c3, rfl⟩ := list4 hlen
  obtain ⟨y0, y1, y2, y3, n, _, _, g0, g1, g2, g3⟩ := trod_struct4 Tryz.underlying39 h
  simp only [cells9, cells5, cells37, List.drop_zero, List.drop_succ_cons, List.take_succ_cons, List.take_zero] at g0 g1 g2 g3
  obtain ⟨s0, e0, _⟩ := DataW.trod_string Tryz.underlying9 g0
  obtain ⟨k1, e1, _, w1⟩ := DataW.trod_int Tryz.underlying5 g1
  obtain ⟨s2, e2, _⟩ := DataW.trod_string Tryz.underlying9 g2
  obtain ⟨ls, hls⟩ := open_list g3
  cases e0; cases e1; cases e2
  have hw : 0 ≤ k1 ∧ k1 < 256 := by
    have e1 : IntKind.u8.min = 0 := rfl
    have e2 : IntKind.u8.max = 255 := rfl
    simp only [Lit.wf, Bool.and_eq_true, decide_eq_true_eq, e1, e2] at w1
    omega
  obtain ⟨kd, rfl⟩ := Int.eq_ofNat_of_zero_le hw.1
  have d0 := hcell 0 (by omega)
  have d1 := hcell 1 (by omega)
  have d2 := hcell 2 (by omega)
  have d3 := hcell 3 (by omega)
  rw [add_plain] at d0 d1 d2 d3
  exact ⟨⟨s0, kd, s2, ls⟩, ⟨d0, d1, d2, ⟨_, d3, hls⟩, by show kd < 256; omega⟩⟩
theorem open_members {fuel : Nat} {v : Value} {x : DataW H × List MemPlace} (h : DataW.trod enc Tryz.prog W 0 spare held fuel 22 [v] = some x) : ∃ ms, MV v ms W := by
  rcases open_slice Tryz.underlying22 h with ⟨hcs, _⟩ | ⟨a, len, cap, m, n, D, Pl, hcs, _, hl, _, hmm, _, hel⟩
  · cases hcs
    exact ⟨[], none, 0, rfl, fun _ => ⟨rfl, rfl⟩, fun j s hj => (by simp at hj)⟩
  · cases hcs
    have hlm : len ≤ m := by rw [hmm]; split <;> omega
    rw [cells39] at hel
    by_cases h0 : len = 0
    · subst h0
      exact ⟨[], some a, cap, rfl, fun e => (by cases e), fun j s hj => (by simp at hj)⟩
    · have ha : a = ⟨a.block, a.off, none⟩ := by
        obtain ⟨cs', h1, _⟩ := hel 0 (by omega)
        obtain ⟨_, hlen, hcell⟩ := World.cells?_some h1
        obtain ⟨c0, c1, c2, c3, rfl⟩ := list4 hlen
        have := hcell 0 (by omega)
        exact spot_none (x := c0) (by simpa [Addr.add] using this)
      obtain ⟨M, hM⟩ := choose_lt (n := len) (α := Mem) (p := fun i q => MC a.block (a.off + i * 4) q W) (fun i hi => by
        obtain ⟨cs', h1, h2⟩ := hel i (by omega)
        rw [ha, add_plain] at h1
        exact open_member h1 h2)
      refine ⟨(List.range len).map M, some a, cap, by simp, fun e => (by cases e), fun j q hj => ?_⟩
      obtain ⟨hjl, rfl⟩ := range_get hj
      exact ⟨a.block, a.off, by rw [← ha], hM j hjl⟩
end
end Go.Proofs.Qxb6604447aGreatFmt
