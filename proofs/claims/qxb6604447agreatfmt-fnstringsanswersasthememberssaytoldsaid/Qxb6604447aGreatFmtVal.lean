/-
  What the reader makes of a value: the shapes, the contract of 'value', and 'value' at a string.
-/
import Derived.Test.Qxb6604447aGreatFmtStr
import Derived.Test.Qxb6604447aGreatFmtMap
import Derived.Test.Qxb6604447aGreatFmtSp
namespace Go.Proofs.Qxb6604447aGreatFmt
set_option maxRecDepth 1000000
open Go.RowKit Go.Lib

/-- The shape of a value that was read: a string; an array, each of its elements a string or not; anything else. -/
inductive Sh where
  | str (t : List UInt8)
  | arr (os : List (Option (List UInt8)))
  | oth
/-- How a shape reads as an element of an array. -/
def Sh.cell : Sh → Option (List UInt8)
  | .str t => some t
  | _ => none
/-- How a value reads as an element of an array. -/
def cellOf : Value → Option (List UInt8)
  | .iface 9 (.string s) => some s.data.toList
  | _ => none
/-- The values that the reader makes. -/
def Good (v : Value) : Prop := (∃ t : List UInt8, v = .iface 9 (.string ⟨t.toArray⟩)) ∨ v = .nilIface ∨ (∃ x, v = .iface 4 x) ∨ (∃ x, v = .iface 74 x) ∨ (∃ x, v = .iface 56 x) ∨ ∃ x, v = .iface 27 x
/-- The value v owns a row of values of type any, vs at its head. -/
def OwnA (v : Value) (vs : List Value) (W : World) : Prop := W.ownsRow 0 20 1 v vs.length vs
/-- In the world W the value v has the shape sh. -/
def Kept : Sh → Value → World → Prop
  | .str t, v, _ => v = .iface 9 (.string ⟨t.toArray⟩)
  | .arr os, v, W => ∃ b n c vs, v = .iface 56 (.slice (some ⟨b, 0, none⟩) n c) ∧ OwnA (.slice (some ⟨b, 0, none⟩) n c) vs W ∧ vs.map cellOf = os ∧ ∀ u ∈ vs, Good u
  | .oth, v, _ => v = .nilIface ∨ (∃ x, v = .iface 4 x) ∨ (∃ x, v = .iface 74 x) ∨ ∃ x, v = .iface 27 x
/-- The block that a value leads to, where it is a slice. -/
def blockOf : Value → Option Nat
  | .iface 56 s => s.ownBlock
  | _ => none
/-- The value lies apart from the reader and its buffer. -/
def Far (v : Value) (R : Nat) (bv : Value) : Prop := ∀ b, blockOf v = some b → b ≠ R ∧ bv.ownBlock ≠ some b

theorem OwnA.lt {v : Value} {vs : List Value} {W : World} (h : OwnA v vs W) {k : Nat} (hk : v.ownBlock = some k) : k < W.heap.size := (World.ownsRow.lt h k hk).2
theorem OwnA.keep {v : Value} {vs : List Value} {W W' : World} (h : OwnA v vs W) (hk : ∀ k, v.ownBlock = some k → W'.heap[k]? = W.heap[k]?) : OwnA v vs W' := ownsRow_keep h hk
theorem Kept.lt {sh : Sh} {v : Value} {W : World} (h : Kept sh v W) {b : Nat} (hb : blockOf v = some b) : b < W.heap.size := by
  cases sh with
  | str t => obtain rfl := h; cases hb
  | arr os =>
    obtain ⟨b, n, c, vs, rfl, h1, _⟩ := h
    exact h1.lt hb
  | oth => rcases h with rfl | ⟨x, rfl⟩ | ⟨x, rfl⟩ | ⟨x, rfl⟩ <;> cases hb
theorem Kept.keep {sh : Sh} {v : Value} {W W' : World} (h : Kept sh v W) (hk : ∀ b, blockOf v = some b → W'.heap[b]? = W.heap[b]?) : Kept sh v W' := by
  cases sh with
  | str t => exact h
  | arr os =>
    obtain ⟨b, n, c, vs, rfl, h1, h2⟩ := h
    exact ⟨b, n, c, vs, rfl, h1.keep (fun k e => hk k e), h2⟩
  | oth => exact h
theorem Kept.below {sh : Sh} {v : Value} {W W' : World} (h : Kept sh v W) (hb : Below W.heap.size W W') : Kept sh v W' := h.keep fun b e => hb.block b (h.lt e)
theorem Kept.good {sh : Sh} {v : Value} {W : World} (h : Kept sh v W) : Good v ∧ cellOf v = sh.cell := by
  cases sh with
  | str t => obtain rfl := h; exact ⟨Or.inl ⟨t, rfl⟩, rfl⟩
  | arr os =>
    obtain ⟨b, n, c, vs, rfl, _⟩ := h
    exact ⟨Or.inr (Or.inr (Or.inr (Or.inr (Or.inl ⟨_, rfl⟩)))), rfl⟩
  | oth =>
    rcases h with rfl | ⟨x, rfl⟩ | ⟨x, rfl⟩ | ⟨x, rfl⟩
    · exact ⟨Or.inr (Or.inl rfl), rfl⟩
    · exact ⟨Or.inr (Or.inr (Or.inl ⟨_, rfl⟩)), rfl⟩
    · exact ⟨Or.inr (Or.inr (Or.inr (Or.inl ⟨_, rfl⟩))), rfl⟩
    · exact ⟨Or.inr (Or.inr (Or.inr (Or.inr (Or.inr ⟨_, rfl⟩)))), rfl⟩
theorem Good.one {v : Value} (h : Good v) : v.oneCell' = true := by
  rcases h with ⟨t, rfl⟩ | rfl | ⟨x, rfl⟩ | ⟨x, rfl⟩ | ⟨x, rfl⟩ | ⟨x, rfl⟩ <;> rfl

/-- The shape, and that the value lies apart. -/
def Holds (sh : Sh) (v : Value) (R : Nat) (bv : Value) (W : World) : Prop := Kept sh v W ∧ Far v R bv
theorem Holds.step {sh : Sh} {v : Value} {R : Nat} {bv bv' : Value} {W W' : World} (h : Holds sh v R bv W) (s : St R bv W bv' W') : Holds sh v R bv' W' := by
  refine ⟨h.1.keep fun b e => s.keep b (h.1.lt e) (h.2 b e).1 (h.2 b e).2, fun b e => ⟨(h.2 b e).1, fun hb => ?_⟩⟩
  rcases s.buf b hb with e2 | e2
  · exact (h.2 b e).2 e2
  · have := h.1.lt e
    omega

/-- What may follow a value. -/
def Term (rest : List UInt8) : Prop := ∃ c l, rest = c :: l ∧ (c = 44 ∨ c = 93 ∨ c = 125)
/-- What a call of value leaves. -/
def VPost (R g : Nat) (L : List UInt8) (cap p : Nat) (ok : Bool) (sh : Sh) (bv : Value) (W : World) (e : Ending) (W' : World) : Prop :=
  (ok = true ∧ ∃ v, e = .returned (.tuple #[v, .nilIface]) ∧ ∃ bv' bs', Rd R g L cap p bv' bs' W' ∧ St R bv W bv' W' ∧ Holds sh v R bv' W') ∨
  (ok = false ∧ ∃ v x, e = .returned (.tuple #[v, .iface 62 x]) ∧ ∃ bv', St R bv W bv' W')
/-- The listed variables that the walks read: the two tables of utf8, strconv's switch, the shape of a float64. -/
structure Tb (W : World) : Prop where
  u8 : Lib.Utf8Tabs 1 2 W
  opt : W.cell? ⟨7, 0, none⟩ = some (.bool true)
  inf : W.cell? ⟨8, 0, none⟩ = some (.int .u64 52)
theorem Tb.keep {W W' : World} (h : Tb W) (hk : ∀ k, k < 9 → W'.heap[k]? = W.heap[k]?) : Tb W' :=
  ⟨tabs_keep h.u8 (hk 1 (by omega)) (hk 2 (by omega)), by have := h.opt; simp only [World.cell?] at this ⊢; rw [hk 7 (by omega)]; exact this, by have := h.inf; simp only [World.cell?] at this ⊢; rw [hk 8 (by omega)]; exact this⟩
theorem Tb.nine {W : World} (h : Tb W) : 9 ≤ W.heap.size := World.block_lt_of_cell? W _ h.inf
/-- The reader's standing premises. -/
structure Base (F : Go.Stop.Interp) (R : Nat) (bv : Value) (W : World) : Prop where
  ans : F.answers W.tape
  tabs : Tb W
  r3 : 9 ≤ R
  b3 : ∀ k, bv.ownBlock = some k → 9 ≤ k
theorem Base.step {F : Go.Stop.Interp} {R : Nat} {bv bv' : Value} {W W' : World} (h : Base F R bv W) (hR : R < W.heap.size) (s : St R bv W bv' W') : Base F R bv' W' where
  ans := by rw [s.tape]; exact h.ans
  tabs := h.tabs.keep fun k hk => s.low (n := 9) (by have := h.r3; omega) h.r3 h.b3 k hk
  r3 := h.r3
  b3 := s.far (by have := h.r3; omega) h.b3
/-- 'value' reads the text txt, at depth d: it answers a value of the shape sh where ok, else an error. -/
def VC (F : Go.Stop.Interp) (d : Nat) (txt : List UInt8) (ok : Bool) (sh : Sh) : Prop :=
  ∀ (R g : Nat) (L : List UInt8) (cap pos : Nat) (bv : Value) (bs : List UInt8) (W : World) (rest : List UInt8), Rd R g L cap pos bv bs W → L.drop pos = txt ++ rest → Term rest → Base F R bv W →
    Calls Tryz.prog 24 #[.pointer (some ⟨R, 0, none⟩), .int .i64 (d : Int)] W (VPost R g L cap (pos + txt.length) ok sh bv W)

/-- skipSpace where no white space stands. -/
theorem skip0 {R g : Nat} {L : List UInt8} {cap pos : Nat} {bv : Value} {bs : List UInt8} (W : World) (h : Rd R g L cap pos bv bs W) {c : UInt8} {l : List UInt8} (hd : L.drop pos = c :: l) (hc : isSp c = false) :
    Calls Tryz.prog 21 #[.pointer (some ⟨R, 0, none⟩)] W fun e W' => e = .returned (.tuple #[]) ∧ Rd R g L cap pos bv bs W' ∧ St R bv W bv W' := by
  have k := skipSpace W h
  rw [hd, nsp, hc] at k
  exact k
/-- skipSpace where one space stands. -/
theorem skip1 {R g : Nat} {L : List UInt8} {cap pos : Nat} {bv : Value} {bs : List UInt8} (W : World) (h : Rd R g L cap pos bv bs W) {s c : UInt8} {l : List UInt8} (hd : L.drop pos = s :: c :: l) (hs : isSp s = true) (hc : isSp c = false) :
    Calls Tryz.prog 21 #[.pointer (some ⟨R, 0, none⟩)] W fun e W' => e = .returned (.tuple #[]) ∧ Rd R g L cap (pos + 1) bv bs W' ∧ St R bv W bv W' := by
  have k := skipSpace W h
  rw [hd, nsp, hs, nsp, hc] at k
  exact k
theorem drop_get {L : List UInt8} {pos : Nat} {c : UInt8} {l : List UInt8} (hd : L.drop pos = c :: l) : L[pos]? = some c := by
  have : (L.drop pos)[0]? = some c := by rw [hd]; rfl
  rwa [List.getElem?_drop] at this
theorem drop_lt {L : List UInt8} {pos : Nat} {c : UInt8} {l : List UInt8} (hd : L.drop pos = c :: l) : pos < L.length := (List.getElem?_eq_some_iff.1 (drop_get hd)).1
theorem drop_next {L : List UInt8} {pos : Nat} {c : UInt8} {l : List UInt8} (hd : L.drop pos = c :: l) : L.drop (pos + 1) = l := by rw [← List.drop_drop, hd]; rfl

set_option maxHeartbeats 2000000 in
theorem valStr (F : Go.Stop.Interp) (d : Nat) (t : List UInt8) (ht : t.length ≤ 1048576) : VC F d (enc t) (valid t) (.str t) := by
  intro R g L cap pos bv bs W rest h hd _ hb
  have HR : Aside (Rd R g L cap pos bv bs W) := h
  have HD : Aside (L.drop pos = enc t ++ rest) := hd
  have hd0 : L.drop pos = 34 :: (encB t ++ [34] ++ rest) := hd
  have HD0 : Aside (L.drop pos = 34 :: (encB t ++ [34] ++ rest)) := hd0
  have HB : Aside (Base F R bv W) := hb
  have hlt := drop_lt hd0
  have hcp := h.hcap
  have hne : ((pos : Int) == (L.length : Int)) = false := by rw [beq_eq_false_iff_ne]; omega
  have hp' : (pos : Int) < (L.length : Int) := by omega
  obtain ⟨E, hE⟩ : ∃ E, pos + (enc t).length = E := ⟨_, rfl⟩
  rw [hE]
  have HE : Aside (pos + (enc t).length = E) := hE
  clear h hd hd0 hb hE
  go_enter Tryz.func24, Tryz.ntmps24
  go_wp2_with fail
  refine (skip0 W HR.out HD0.out rfl).mono ?_
  rintro e W1 ⟨rfl, h1, s1⟩
  have c0 := h1.c0
  have c1 := h1.c1
  have x0 : W1.cell? ⟨g, pos, none⟩ = some (.int .u8 34) := head_cell (x := 34) h1.dat HD0.out
  have H1 : Aside (Rd R g L cap pos bv bs W1) := h1
  have S1 : Aside (St R bv W bv W1) := s1
  clear h1 s1
  go_wp2_with fail
  go_quiet (fail)
  go_wp2_with fail
  go_quiet (fail)
  go_wp2_with fail
  have B1 : Base F R bv (W1.drewN 0) := HB.out.step HR.out.ltR (S1.out.drewN 0)
  refine (stringW F _ (H1.out.drewN _) t rest HD.out ht (by exact B1.ans) (by exact B1.tabs.u8) (Nat.le_trans (by omega) B1.r3) (fun k e => Nat.le_trans (by omega) (B1.b3 k e))).mono ?_
  rw [HE.out]
  rintro e W2 (⟨hv, rfl, bv2, bs2, h2, s2⟩ | ⟨hv, ⟨x, rfl⟩, bv2, s2⟩)
  · go_wp2
    go_ret2
    exact Or.inl ⟨hv, _, rfl, _, _, h2, (S1.out.drewN _).trans s2, rfl, fun b e => by cases e⟩
  · go_wp2
    go_ret2
    exact Or.inr ⟨hv, _, _, rfl, _, (S1.out.drewN _).trans s2⟩
end Go.Proofs.Qxb6604447aGreatFmt
