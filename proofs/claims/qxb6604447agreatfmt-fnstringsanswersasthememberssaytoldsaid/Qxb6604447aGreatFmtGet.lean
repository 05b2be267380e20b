/-
  The walks of Object.String and Object.Strings.
-/
import Derived.Test.Qxb6604447aGreatFmtParse
import Derived.OwnWalk
namespace Go.Proofs.Qxb6604447aGreatFmt
set_option maxRecDepth 1000000
open Go.RowKit Go.Lib

/-- The member named k. -/
def findM (k : List UInt8) (ms : List Mb) : Option Mb := ms.find? (fun m => k == m.name)
/-- What a call of String leaves. -/
def SPost (ms : List Mb) (k : List UInt8) (W : World) (e : Ending) (W' : World) : Prop :=
  Below W.heap.size W W' ∧
  ((findM k ms = none ∧ e = .returned (.tuple #[.string ⟨#[]⟩, .bool false, .nilIface])) ∨
   (∃ m t, findM k ms = some m ∧ m.el.sh = .str t ∧ e = .returned (.tuple #[.string ⟨t.toArray⟩, .bool true, .nilIface])) ∨
   (∃ m x, findM k ms = some m ∧ (∀ t, m.el.sh ≠ .str t) ∧ e = .returned (.tuple #[.string ⟨#[]⟩, .bool true, .iface 62 x])))

set_option maxHeartbeats 2000000 in
theorem stringGet (F : Go.Stop.Interp) (ms : List Mb) (k : List UInt8) (M : Nat) (kvs : List (List UInt8 × Value)) (W : World) (hm : MapAt M kvs W) (he : Ent (fun sh v => Kept sh v W) ms kvs) (hF : F.answers W.tape) :
    Calls Tryz.prog 13 #[.map (some M), .string ⟨k.toArray⟩] W (SPost ms k W) := by
  have HM : Aside (MapAt M kvs W) := hm
  have HF : Aside (F.answers W.tape) := hF
  rcases he.look k with ⟨hl, hf⟩ | ⟨v, m, hl, hf, hk⟩
  · have HL : Aside (kvs.lookup k = none) := hl
    have HFD : Aside (findM k ms = none) := hf
    clear hm he hl hf hF
    go_enter Tryz.func13, Tryz.ntmps13
    go_wp2_with (at_lookup; refine wpl_look _ rfl _ _ 28 rfl Tryz.underlying28 M kvs rfl HM.out k rfl .nilIface false (by rw [HL.out]; rfl) (by rw [HL.out]; rfl) ?_)
    go_ret3
    exact ⟨Below.refl _ _, Or.inl ⟨HFD.out, rfl⟩⟩
  · have HL : Aside (kvs.lookup k = some v) := hl
    have HFD : Aside (findM k ms = some m) := hf
    obtain ⟨sh, hsh⟩ : ∃ sh, m.el.sh = sh := ⟨_, rfl⟩
    rw [hsh] at hk
    have HSH : Aside (m.el.sh = sh) := hsh
    clear hm he hl hf hF hsh
    have t1 := ta9_yes
    have t2 := ta9_nil
    have t3 := ta9_4
    have t4 := ta9_74
    have t5 := ta9_56
    have t6 := ta9_27
    cases sh with
    | str t =>
      obtain rfl := hk
      go_enter Tryz.func13, Tryz.ntmps13
      go_wp2_with (at_lookup; refine wpl_look _ rfl _ _ 28 rfl Tryz.underlying28 M kvs rfl HM.out k rfl (.iface 9 (.string ⟨t.toArray⟩)) true (by rw [HL.out]; rfl) (by rw [HL.out]; rfl) ?_)
      go_ret3
      exact ⟨Below.refl _ _, Or.inr (Or.inl ⟨m, t, HFD.out, HSH.out, rfl⟩)⟩
    | arr os =>
      obtain ⟨b, n, c, vs, rfl, _⟩ := hk
      go_enter Tryz.func13, Tryz.ntmps13
      go_wp2_with (at_lookup; refine wpl_look _ rfl _ _ 28 rfl Tryz.underlying28 M kvs rfl HM.out k rfl (.iface 56 (.slice (some ⟨b, 0, none⟩) n c)) true (by rw [HL.out]; rfl) (by rw [HL.out]; rfl) ?_)
      refine (errorf_nostr F ⟨k.toArray⟩ W.heap.size _ (by exact HF.out) (by exact cell_one_new W _ 20 0 _ rfl)).mono ?_
      rintro e W2 ⟨⟨x, rfl⟩, b2⟩
      have B2 : Aside (Below W.heap.size W W2) := Below.trans ((Below.refl _ _).alloc (Nat.le_refl _) _) ⟨b2.os, b2.tape, b2.output, b2.size, fun i hi => b2.block i (by simp; omega)⟩
      clear b2
      go_wp2
      go_ret3
      exact ⟨B2.out, Or.inr (Or.inr ⟨m, x, HFD.out, (fun t e => by rw [HSH.out] at e; cases e), rfl⟩)⟩
    | oth =>
      rcases hk with rfl | ⟨y, rfl⟩ | ⟨y, rfl⟩ | ⟨y, rfl⟩
      · go_enter Tryz.func13, Tryz.ntmps13
        go_wp2_with (at_lookup; refine wpl_look _ rfl _ _ 28 rfl Tryz.underlying28 M kvs rfl HM.out k rfl (.nilIface) true (by rw [HL.out]; rfl) (by rw [HL.out]; rfl) ?_)
        refine (errorf_nostr F ⟨k.toArray⟩ W.heap.size _ (by exact HF.out) (by exact cell_one_new W _ 20 0 _ rfl)).mono ?_
        rintro e W2 ⟨⟨x, rfl⟩, b2⟩
        have B2 : Aside (Below W.heap.size W W2) := Below.trans ((Below.refl _ _).alloc (Nat.le_refl _) _) ⟨b2.os, b2.tape, b2.output, b2.size, fun i hi => b2.block i (by simp; omega)⟩
        clear b2
        go_wp2
        go_ret3
        exact ⟨B2.out, Or.inr (Or.inr ⟨m, x, HFD.out, (fun t e => by rw [HSH.out] at e; cases e), rfl⟩)⟩
      · go_enter Tryz.func13, Tryz.ntmps13
        go_wp2_with (at_lookup; refine wpl_look _ rfl _ _ 28 rfl Tryz.underlying28 M kvs rfl HM.out k rfl (.iface 4 y) true (by rw [HL.out]; rfl) (by rw [HL.out]; rfl) ?_)
        refine (errorf_nostr F ⟨k.toArray⟩ W.heap.size _ (by exact HF.out) (by exact cell_one_new W _ 20 0 _ rfl)).mono ?_
        rintro e W2 ⟨⟨x, rfl⟩, b2⟩
        have B2 : Aside (Below W.heap.size W W2) := Below.trans ((Below.refl _ _).alloc (Nat.le_refl _) _) ⟨b2.os, b2.tape, b2.output, b2.size, fun i hi => b2.block i (by simp; omega)⟩
        clear b2
        go_wp2
        go_ret3
        exact ⟨B2.out, Or.inr (Or.inr ⟨m, x, HFD.out, (fun t e => by rw [HSH.out] at e; cases e), rfl⟩)⟩
      · go_enter Tryz.func13, Tryz.ntmps13
        go_wp2_with (at_lookup; refine wpl_look _ rfl _ _ 28 rfl Tryz.underlying28 M kvs rfl HM.out k rfl (.iface 74 y) true (by rw [HL.out]; rfl) (by rw [HL.out]; rfl) ?_)
        refine (errorf_nostr F ⟨k.toArray⟩ W.heap.size _ (by exact HF.out) (by exact cell_one_new W _ 20 0 _ rfl)).mono ?_
        rintro e W2 ⟨⟨x, rfl⟩, b2⟩
        have B2 : Aside (Below W.heap.size W W2) := Below.trans ((Below.refl _ _).alloc (Nat.le_refl _) _) ⟨b2.os, b2.tape, b2.output, b2.size, fun i hi => b2.block i (by simp; omega)⟩
        clear b2
        go_wp2
        go_ret3
        exact ⟨B2.out, Or.inr (Or.inr ⟨m, x, HFD.out, (fun t e => by rw [HSH.out] at e; cases e), rfl⟩)⟩
      · go_enter Tryz.func13, Tryz.ntmps13
        go_wp2_with (at_lookup; refine wpl_look _ rfl _ _ 28 rfl Tryz.underlying28 M kvs rfl HM.out k rfl (.iface 27 y) true (by rw [HL.out]; rfl) (by rw [HL.out]; rfl) ?_)
        refine (errorf_nostr F ⟨k.toArray⟩ W.heap.size _ (by exact HF.out) (by exact cell_one_new W _ 20 0 _ rfl)).mono ?_
        rintro e W2 ⟨⟨x, rfl⟩, b2⟩
        have B2 : Aside (Below W.heap.size W W2) := Below.trans ((Below.refl _ _).alloc (Nat.le_refl _) _) ⟨b2.os, b2.tape, b2.output, b2.size, fun i hi => b2.block i (by simp; omega)⟩
        clear b2
        go_wp2
        go_ret3
        exact ⟨B2.out, Or.inr (Or.inr ⟨m, x, HFD.out, (fun t e => by rw [HSH.out] at e; cases e), rfl⟩)⟩
end Go.Proofs.Qxb6604447aGreatFmt
