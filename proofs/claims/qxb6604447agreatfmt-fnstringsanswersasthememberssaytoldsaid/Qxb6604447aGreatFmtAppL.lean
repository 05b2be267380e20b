/-
  append of a string's bytes, as the walks use it; the walks of zzAppendList, zzAppendIntruder, zzAppendMixedList.
-/
import Derived.Test.Qxb6604447aGreatFmtMem
import Derived.Test.Qxb6604447aGreatFmtAStr
import Derived.Lib.AppendStr
namespace Go.Proofs.Qxb6604447aGreatFmt
set_option maxRecDepth 1000000
open Go.RowKit Go.Lib

section
variable {ops : Array Oper} {rest : List Oper} {o : Oper} {a : Act} {Q : Exit → Act → World → Prop}
theorem strCells_eq (s : ByteArray) : strCells s = Lib.byteCells s.data.toList := rfl
theorem run_appS (W : World) (ty : TypeId) (v : Value) (bs : List UInt8) (hown : Own v bs W) (s : ByteArray) (hb : bs.length + s.size ≤ 70368744177664) :
    ∃ v' W', (Builtin.append_ #[25, 9] ty #[v, .string s]).run Tryz.prog W = .ok v' W' ∧ Own v' (bs ++ s.data.toList) W' ∧ Gr v W v' W' := by
  obtain ⟨i, hi, hz, hs1, hs2⟩ := info5
  have hmx : bs.length + s.size ≤ maxLen := by unfold maxLen; omega
  have hlist : s.data.toList.length = s.size := by show _ = s.data.size; simp
  obtain ⟨v', W', hr, ho, hg, _⟩ := run_append_own_string (P := Tryz.prog) W 0 25 9 ty 5 i Tryz.underlying25 Tryz.underlying9 hi hz hs1 hs2 v bs.length (Lib.byteCells bs) hown s hmx (by omega) (Nat.zero_le _)
  have e1 : Lib.byteCells bs ++ strCells s = Lib.byteCells (bs ++ s.data.toList) := by simp [strCells_eq, Lib.byteCells]
  have e2 : bs.length + s.size = (bs ++ s.data.toList).length := by rw [List.length_append, hlist]
  refine ⟨v', W', hr, by rw [e1, e2] at ho; exact ho, ⟨hg.os, hg.tape, hg.output, hg.size, fun k hk hne => hg.block k hk (fun e => hne e.symm), fun k hk => ?_⟩⟩
  rcases hown.2 with ⟨rfl, h0⟩ | ⟨g, cap, cur, rfl, _, hgc, hnc, hcm, hcs, htake⟩
  · have hx : bs = [] := List.eq_nil_of_length_eq_zero h0
    subst hx
    obtain ⟨v2, W2, hr2, ho2, _⟩ := run_append_own_string (P := Tryz.prog) W W.heap.size 25 9 ty 5 i Tryz.underlying25 Tryz.underlying9 hi hz hs1 hs2 (.slice none 0 0) 0 [] (World.ownsRow_nil W _ 5 1) s hmx (by simp at hb; omega) (Nat.le_refl _)
    rw [hr] at hr2
    cases hr2
    rcases ho2.2 with ⟨rfl, _⟩ | ⟨g, cap, cur, rfl, hb2, _⟩
    · cases hk
    · cases hk
      exact Or.inr hb2
  · by_cases hroom : bs.length + s.size ≤ cap
    · have hr2 := run_append_room_string (P := Tryz.prog) W 25 9 ty 5 i Tryz.underlying25 Tryz.underlying9 hi hs1 g bs.length cap cur hgc s hroom (by omega)
      rw [hr] at hr2
      cases hr2
      exact Or.inl hk
    · have hr2 := run_append_grow_string (P := Tryz.prog) W 25 9 ty 5 i (.int .u8 0) Tryz.underlying25 Tryz.underlying9 hi hz ⟨g, 0, none⟩ bs.length cap (Lib.byteCells bs) (by rw [hs1]; simp [Lib.byteCells]) (World.ownsRow.cells hown (g := g) rfl) s (by omega) (by omega) (by rw [hs2]; exact growslice_fits (by omega) (by omega))
      rw [hr] at hr2
      cases hr2
      cases hk
      exact Or.inr (Nat.le_refl _)
/-- append of a string's bytes, in a walk. -/
theorem wpl_appS (W : World) (hgd : o.guard = none) (s x : Operand) (ho : o.op = .call { callee := .builtin .append, args := #[s, x], argTypes := #[25, 9] })
    (v : Value) (bs : List UInt8) (hs : a.eval s = v) (hown : Own v bs W) (str : ByteArray) (hx : a.eval x = .string str) (hb : bs.length + str.size ≤ 70368744177664)
    (h : ∀ v' W', Own v' (bs ++ str.data.toList) W' → Gr v W v' W' → wpList Tryz.prog ops Q rest (a.put o.dst v') W') :
    wpList Tryz.prog ops Q (o :: rest) a W := by
  refine wpList_plain hgd fun K hK => ?_
  obtain ⟨v', W', hr, h2, h3⟩ := run_appS W o.type v bs hown str hb
  unfold Oper.wp execOp
  simp only [ho, resolve, invoke, builtin, Sem.run_bind, Sem.run_pure, Result.andThen_ok, List.map_toArray, List.map_cons, List.map_nil, hs, hx, hr]
  exact hK _ _ (h v' W' h2 h3)
end

/-- What the intruder's text is. -/
def intr (w : Nat) : List UInt8 := if w = 0 then [110, 117, 108, 108] else if w = 1 then [102, 97, 108, 115, 101] else if w = 2 then [48] else if w = 3 then [91, 93] else [123, 125]

set_option maxHeartbeats 2000000 in
theorem intruderW (w : Nat) (v : Value) (L : List UInt8) (W : World) (hown : Own v L W) (hL : L.length ≤ 1099511627776) (hw : w < 5) :
    Calls Tryz.prog 37 #[v, .int .i64 (w : Int)] W fun e W' => ∃ v', e = .returned v' ∧ Own v' (L ++ intr w) W' ∧ Gr v W v' W' := by
  have HO : Aside (Own v L W) := hown
  have hLA : Aside (L.length ≤ 1099511627776) := hL
  clear hown hL
  have hcase : w = 0 ∨ w = 1 ∨ w = 2 ∨ w = 3 ∨ w = 4 := by omega
  clear hw
  rcases hcase with rfl | rfl | rfl | rfl | rfl
  · go_enter Tryz.func37, Tryz.ntmps37
    go_wp2_with (at_builtin; refine wpl_appS _ rfl _ _ rfl v L rfl HO.out ⟨#[110, 117, 108, 108]⟩ rfl (by have := hLA.out; show _ + 4 ≤ _; omega) ?_)
    intro v1 W1 o1 g1
    have O1 : Aside (Own v1 (L ++ intr 0) W1) := o1
    have G1 : Aside (Gr v W v1 W1) := g1
    clear o1 g1
    go_wp2_with fail
    go_ret
    exact ⟨_, rfl, O1.out, G1.out⟩
  · go_enter Tryz.func37, Tryz.ntmps37
    go_wp2_with (at_builtin; refine wpl_appS _ rfl _ _ rfl v L rfl HO.out ⟨#[102, 97, 108, 115, 101]⟩ rfl (by have := hLA.out; show _ + 5 ≤ _; omega) ?_)
    intro v1 W1 o1 g1
    have O1 : Aside (Own v1 (L ++ intr 1) W1) := o1
    have G1 : Aside (Gr v W v1 W1) := g1
    clear o1 g1
    go_wp2_with fail
    go_ret
    exact ⟨_, rfl, O1.out, G1.out⟩
  · go_enter Tryz.func37, Tryz.ntmps37
    go_wp2_with (at_builtin; refine wpl_app _ rfl _ _ rfl v L rfl (HO.out.alloc _) ⟨W.heap.size, 0, none⟩ 1 1 [48] rfl rfl (cells_new W [48] 5) (by have := hLA.out; omega) ?_)
    intro v1 W1 o1 g1 _
    have O1 : Aside (Own v1 (L ++ intr 2) W1) := o1
    have G1 : Aside (Gr v W v1 W1) := ((Gr.refl _ W).alloc _).trans g1
    clear o1 g1
    go_wp2_with fail
    go_ret
    exact ⟨_, rfl, O1.out, G1.out⟩
  · go_enter Tryz.func37, Tryz.ntmps37
    go_wp2_with (at_builtin; refine wpl_app _ rfl _ _ rfl v L rfl (HO.out.alloc _) ⟨W.heap.size, 0, none⟩ 2 2 [91, 93] rfl rfl (cells_new W [91, 93] 5) (by have := hLA.out; omega) ?_)
    intro v1 W1 o1 g1 _
    have O1 : Aside (Own v1 (L ++ intr 3) W1) := o1
    have G1 : Aside (Gr v W v1 W1) := ((Gr.refl _ W).alloc _).trans g1
    clear o1 g1
    go_wp2_with fail
    go_ret
    exact ⟨_, rfl, O1.out, G1.out⟩
  · go_enter Tryz.func37, Tryz.ntmps37
    go_wp2_with (at_builtin; refine wpl_app _ rfl _ _ rfl v L rfl (HO.out.alloc _) ⟨W.heap.size, 0, none⟩ 2 2 [123, 125] rfl rfl (cells_new W [123, 125] 5) (by have := hLA.out; omega) ?_)
    intro v1 W1 o1 g1 _
    have O1 : Aside (Own v1 (L ++ intr 4) W1) := o1
    have G1 : Aside (Gr v W v1 W1) := ((Gr.refl _ W).alloc _).trans g1
    clear o1 g1
    go_wp2_with fail
    go_ret
    exact ⟨_, rfl, O1.out, G1.out⟩

/-- Texts joined by a separator. -/
def jn (sep : List UInt8) : List (List UInt8) → List UInt8
  | [] => []
  | [t] => t
  | t :: u :: r => t ++ (sep ++ jn sep (u :: r))
theorem jn_snoc (sep t : List UInt8) : ∀ ts : List (List UInt8), ts ≠ [] → jn sep (ts ++ [t]) = jn sep ts ++ (sep ++ t)
  | [], h => absurd rfl h
  | [u], _ => rfl
  | u :: x :: r, _ => by
    have ih := jn_snoc sep t (x :: r) (by simp)
    show u ++ (sep ++ jn sep ((x :: r) ++ [t])) = (u ++ (sep ++ jn sep (x :: r))) ++ (sep ++ t)
    rw [ih]; simp only [List.append_assoc]
theorem jn_pre (sep : List UInt8) (b : List (List UInt8)) : ∀ a : List (List UInt8), ∃ r, jn sep (a ++ b) = jn sep a ++ r
  | [] => ⟨jn sep b, rfl⟩
  | [t] => by
    cases b with
    | nil => exact ⟨[], by simp⟩
    | cons x r => exact ⟨sep ++ jn sep (x :: r), rfl⟩
  | t :: u :: a => by
    obtain ⟨r, h⟩ := jn_pre sep b (u :: a)
    refine ⟨r, ?_⟩
    show t ++ (sep ++ jn sep ((u :: a) ++ b)) = (t ++ (sep ++ jn sep (u :: a))) ++ r
    rw [h]; simp only [List.append_assoc]
theorem jn_take (sep : List UInt8) (ts : List (List UInt8)) (k : Nat) : (jn sep (ts.take k)).length ≤ (jn sep ts).length := by
  obtain ⟨r, h⟩ := jn_pre sep (ts.drop k) (ts.take k)
  rw [List.take_append_drop] at h
  rw [h, List.length_append]; omega
theorem take_snoc {α : Type} {l : List α} {k : Nat} {x : α} (h : l[k]? = some x) : l.take (k + 1) = l.take k ++ [x] := by
  rw [List.take_add_one, h]; rfl
/-- A step of a joined text. -/
theorem jn_step {sep : List UInt8} {ts : List (List UInt8)} {k : Nat} {t : List UInt8} (h : ts[k]? = some t) (h0 : 0 < k) : jn sep (ts.take (k + 1)) = jn sep (ts.take k) ++ (sep ++ t) := by
  rw [take_snoc h]
  refine jn_snoc sep t _ (fun e => ?_)
  have hk : k < ts.length := (List.getElem?_eq_some_iff.1 h).1
  have := congrArg List.length e
  rw [List.length_take, List.length_nil] at this
  omega
theorem jn_first {sep : List UInt8} {ts : List (List UInt8)} {t : List UInt8} (h : ts[0]? = some t) : jn sep (ts.take (0 + 1)) = t := by
  rw [take_snoc h]; rfl

/-- The strings of a slice, cell by cell. -/
def LC (ao : Option Addr) (ls : List ByteArray) (W : World) : Prop := ∀ (j : Nat) s, ls[j]? = some s → ∃ b o, ao = some ⟨b, o, none⟩ ∧ W.cell? ⟨b, o + j, none⟩ = some (.string s)
def encs (ls : List ByteArray) : List (List UInt8) := ls.map fun s => enc s.data.toList
theorem encs_get {ls : List ByteArray} {j : Nat} {s : ByteArray} (h : ls[j]? = some s) : (encs ls)[j]? = some (enc s.data.toList) := by simp [encs, h]

set_option maxHeartbeats 2000000 in
theorem listW (lao : Option Addr) (lc : Nat) (ls : List ByteArray) (v : Value) (L : List UInt8) (W : World) (hown : Own v L W) (hlc : ∀ vx X, Gr v W vx X → LC lao ls X)
    (hn : ls.length ≤ 1048576) (hs : ∀ s ∈ ls, s.size ≤ 1048576) (hT : L.length + (jn [44] (encs ls)).length + 2 ≤ 1099511627776) :
    Calls Tryz.prog 28 #[v, .slice lao ls.length lc] W fun e W' => ∃ v', e = .returned v' ∧ Own v' (L ++ 91 :: (jn [44] (encs ls) ++ [93])) W' ∧ Gr v W v' W' := by
  have HO : Aside (Own v L W) := hown
  have HLC : Aside (∀ vx X, Gr v W vx X → LC lao ls X) := hlc
  have HS : Aside (∀ s ∈ ls, s.size ≤ 1048576) := hs
  have HT : Aside (L.length + (jn [44] (encs ls)).length + 2 ≤ 1099511627776) := hT
  have hlen : ∀ k, L.length + 1 + (jn [44] ((encs ls).take k)).length + 1 ≤ 1099511627776 := fun k => by have := jn_take [44] (encs ls) k; omega
  have HLEN : Aside (∀ k, L.length + 1 + (jn [44] ((encs ls).take k)).length + 1 ≤ 1099511627776) := hlen
  obtain ⟨n, hnn⟩ : ∃ n, ls.length = n := ⟨_, rfl⟩
  rw [hnn] at hn ⊢
  have HN : Aside (ls.length = n) := hnn
  clear hown hlc hs hT hlen hnn
  go_enter Tryz.func28, Tryz.ntmps28
  go_wp2_with (at_builtin; refine wpl_app _ rfl _ _ rfl v L rfl (HO.out.alloc _) ⟨W.heap.size, 0, none⟩ 1 1 [91] rfl rfl (cells_new W [91] 5) (by have := HT.out; omega) ?_)
  intro v1 W1 o1 g1 _
  have O1 : Aside (Own v1 (L ++ [91]) W1) := o1
  have G1 : Aside (Gr v W v1 W1) := ((Gr.refl _ W).alloc _).trans g1
  clear o1 g1
  go_wp2_with fail
  go_loopg [0, 5] n (fun g s0 s5 wx => ∃ k : Nat, g + k = n ∧ s5 = .int .i64 k ∧ Own s0 ((L ++ [91]) ++ jn [44] ((encs ls).take k)) wx ∧ Gr v W s0 wx)
  case atStart => exact ⟨0, by omega, rfl, by simpa [jn] using O1.out, G1.out⟩
  case round =>
    obtain ⟨k, hk, rfl, ho, hg⟩ := hrel
    obtain ⟨T, hT⟩ : ∃ T, (L ++ [91]) ++ jn [44] ((encs ls).take k) = T := ⟨_, rfl⟩
    rw [hT] at ho
    have HTT : Aside ((L ++ [91]) ++ jn [44] ((encs ls).take k) = T) := hT
    have O2 : Aside (Own u0 T wr) := ho
    have G2 : Aside (Gr v W u0 wr) := hg
    have HL2 : Aside (T.length + 1 ≤ 1099511627776) := by
      have := HLEN.out k
      show T.length + 1 ≤ _
      rw [← hT, List.length_append, List.length_append, List.length_cons, List.length_nil]
      omega
    clear hT
    by_cases hlt : k < n
    · have h2 : (k : Int) < (n : Int) := by omega
      obtain ⟨s, hs, _⟩ := at_lt (l := ls) (k := k) (by rw [HN.out]; exact hlt)
      have HSS : Aside (ls[k]? = some s) := hs
      have HE : Aside ((encs ls)[k]? = some (enc s.data.toList)) := encs_get hs
      have hsz : s.size ≤ 1048576 := HS.out s (List.mem_of_getElem? hs)
      by_cases h0 : k = 0
      · subst h0
        obtain ⟨b, o, rfl, x0⟩ := HLC.out _ _ hg 0 s hs
        rw [Nat.add_zero] at x0
        clear ho hg hs
        go_wp2_with fail
        refine (appendStringW s u0 T wr O2.out (by omega) (by have := HL2.out; omega)).mono ?_
        rintro e W3 ⟨v3, rfl, o3, g3⟩
        have O3 : Aside (Own v3 (T ++ enc s.data.toList) W3) := o3
        have G3 : Aside (Gr v W v3 W3) := G2.out.trans g3
        clear o3 g3
        go_wp2_with fail
        go_roundg (gk - 1)
        case measure => omega
        case rel =>
          refine ⟨0 + 1, by omega, rfl, ?_, G3.out⟩
          have h7 := O3.out
          rw [← HTT.out] at h7
          rw [jn_first HE.out]
          simpa [jn] using h7
      · have h0' : (0 : Int) < (k : Int) := by omega
        clear ho hg hs
        go_wp2_with (at_builtin; refine wpl_app _ rfl _ _ rfl u0 T rfl (O2.out.alloc _) ⟨wr.heap.size, 0, none⟩ 1 1 [44] rfl rfl (cells_new wr [44] 5) (by have := HL2.out; omega) ?_)
        intro v3 W3 o3 g3 _
        have O3 : Aside (Own v3 (T ++ [44]) W3) := o3
        have G3 : Aside (Gr v W v3 W3) := (G2.out.alloc _).trans g3
        obtain ⟨b, o, rfl, x0⟩ := HLC.out _ _ G3.out k s HSS.out
        clear o3 g3
        go_wp2_with fail
        refine (appendStringW s v3 _ W3 O3.out (by omega) (by have := HL2.out; rw [List.length_append, List.length_cons, List.length_nil]; omega)).mono ?_
        rintro e W4 ⟨v4, rfl, o4, g4⟩
        have O4 : Aside (Own v4 (T ++ [44] ++ enc s.data.toList) W4) := o4
        have G4 : Aside (Gr v W v4 W4) := G3.out.trans g4
        clear o4 g4
        go_wp2_with fail
        go_roundg (gk - 1)
        case measure => omega
        case rel =>
          refine ⟨k + 1, by omega, rfl, ?_, G4.out⟩
          have h7 := O4.out
          rw [← HTT.out] at h7
          rw [jn_step HE.out (by omega)]
          simpa using h7
    · have h2 : decide ((k : Int) < (n : Int)) = false := by simp; omega
      have HJ : Aside (jn [44] ((encs ls).take k) = jn [44] (encs ls)) := by
        show jn [44] ((encs ls).take k) = jn [44] (encs ls)
        rw [List.take_of_length_le (by rw [encs, List.length_map, HN.out]; omega)]
      clear ho hg
      go_wp2_with (at_builtin; refine wpl_app _ rfl _ _ rfl u0 T rfl (O2.out.alloc _) ⟨wr.heap.size, 0, none⟩ 1 1 [93] rfl rfl (cells_new wr [93] 5) (by have := HL2.out; omega) ?_)
      intro v3 W3 o3 g3 _
      have O3 : Aside (Own v3 (T ++ [93]) W3) := o3
      have G3 : Aside (Gr v W v3 W3) := (G2.out.alloc _).trans g3
      clear o3 g3
      go_wp2_with fail
      go_ret
      refine ⟨_, rfl, ?_, G3.out⟩
      have h7 := O3.out
      rw [← HTT.out, HJ.out] at h7
      simpa using h7
end Go.Proofs.Qxb6604447aGreatFmt
