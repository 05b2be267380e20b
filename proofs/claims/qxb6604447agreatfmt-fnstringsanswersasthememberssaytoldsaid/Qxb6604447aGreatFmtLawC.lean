/-
  What the getters answer, over byte strings; the walk of the size guard.
-/
import Derived.Test.Qxb6604447aGreatFmtGets
import Derived.Test.Qxb6604447aGreatFmtValid
namespace Go.Proofs.Qxb6604447aGreatFmt
set_option maxRecDepth 1000000
open Go.RowKit Go.Lib

theorem ba_eta (s : ByteArray) : (⟨s.data.toList.toArray⟩ : ByteArray) = s := by simp
theorem ba_ne (s : ByteArray) : (s != s) = false := by simp [bne, (MapKept.bytes_beq s s).2 rfl]
/-- The map M holds the members ms. -/
def PM (M : Nat) (ms : List Mb) (W : World) : Prop := ∃ kvs, MapAt M kvs W ∧ Ent (fun sh v => Kept sh v W) ms kvs
theorem PM.below {M : Nat} {ms : List Mb} {W W' : World} (h : PM M ms W) (b : Below W.heap.size W W') : PM M ms W' := by
  obtain ⟨kvs, h1, h2⟩ := h
  exact ⟨kvs, h1.keep (b.block M h1.lt), h2.mono fun _ _ k => k.below b⟩

section
variable (F : Go.Stop.Interp) {ms : List Mb} {M : Nat} {W : World} (s : ByteArray)
theorem getS_none (h : PM M ms W) (hF : F.answers W.tape) (hf : findM s.data.toList ms = none) :
    Calls Tryz.prog 13 #[.map (some M), .string s] W fun e W' => e = .returned (.tuple #[.string ⟨#[]⟩, .bool false, .nilIface]) ∧ Below W.heap.size W W' := by
  obtain ⟨kvs, h1, h2⟩ := h
  have k := stringGet F ms s.data.toList M kvs W h1 h2 hF
  rw [ba_eta] at k
  refine k.mono ?_
  rintro e W' ⟨hb, ⟨_, rfl⟩ | ⟨m, t, hm, _⟩ | ⟨m, x, hm, _⟩⟩
  · exact ⟨rfl, hb⟩
  · rw [hf] at hm; cases hm
  · rw [hf] at hm; cases hm
theorem getS_str (h : PM M ms W) (hF : F.answers W.tape) {m : Mb} (u : ByteArray) (hf : findM s.data.toList ms = some m) (hs : m.el.sh = .str u.data.toList) :
    Calls Tryz.prog 13 #[.map (some M), .string s] W fun e W' => e = .returned (.tuple #[.string u, .bool true, .nilIface]) ∧ Below W.heap.size W W' := by
  obtain ⟨kvs, h1, h2⟩ := h
  have k := stringGet F ms s.data.toList M kvs W h1 h2 hF
  rw [ba_eta] at k
  refine k.mono ?_
  rintro e W' ⟨hb, ⟨hm, _⟩ | ⟨m', t', hm, hs', rfl⟩ | ⟨m', x, hm, hs', _⟩⟩
  · rw [hf] at hm; cases hm
  · rw [hf] at hm; cases hm
    rw [hs] at hs'; cases hs'
    rw [ba_eta]
    exact ⟨rfl, hb⟩
  · rw [hf] at hm; cases hm
    exact absurd hs (hs' _)
theorem getS_not (h : PM M ms W) (hF : F.answers W.tape) {m : Mb} (hf : findM s.data.toList ms = some m) (hs : ∀ t, m.el.sh ≠ .str t) :
    Calls Tryz.prog 13 #[.map (some M), .string s] W fun e W' => (∃ x, e = .returned (.tuple #[.string ⟨#[]⟩, .bool true, .iface 62 x])) ∧ Below W.heap.size W W' := by
  obtain ⟨kvs, h1, h2⟩ := h
  have k := stringGet F ms s.data.toList M kvs W h1 h2 hF
  rw [ba_eta] at k
  refine k.mono ?_
  rintro e W' ⟨hb, ⟨hm, _⟩ | ⟨m', t', hm, hs', rfl⟩ | ⟨m', x, hm, _, rfl⟩⟩
  · rw [hf] at hm; cases hm
  · rw [hf] at hm; cases hm
    exact absurd hs' (hs _)
  · exact ⟨⟨x, rfl⟩, hb⟩
variable (hz : ∀ m ∈ ms, ∀ os, m.el.sh = .arr os → os.length ≤ 4194304)
include hz
theorem getSS_none (h : PM M ms W) (hF : F.answers W.tape) (hf : findM s.data.toList ms = none) :
    Calls Tryz.prog 16 #[.map (some M), .string s] W fun e W' => e = .returned (.tuple #[.slice none 0 0, .bool false, .nilIface]) ∧ Below W.heap.size W W' := by
  obtain ⟨kvs, h1, h2⟩ := h
  have k := stringsGet F ms s.data.toList M kvs W h1 h2 hF hz
  rw [ba_eta] at k
  refine k.mono ?_
  rintro e W' ⟨hb, ⟨_, rfl⟩ | ⟨m, t, hm, _⟩ | ⟨m, x, hm, _⟩⟩
  · exact ⟨rfl, hb⟩
  · rw [hf] at hm; cases hm
  · rw [hf] at hm; cases hm
theorem getSS_arr (h : PM M ms W) (hF : F.answers W.tape) {m : Mb} {ss : List (List UInt8)} (hf : findM s.data.toList ms = some m) (hs : m.el.sh = .arr (ss.map some)) :
    Calls Tryz.prog 16 #[.map (some M), .string s] W fun e W' => (∃ b cur, e = .returned (.tuple #[.slice (some ⟨b, 0, none⟩) ss.length ss.length, .bool true, .nilIface]) ∧ W'.heap[b]? = some (.cells cur 9 (0, 0)) ∧ cur.toList = ss.map fun t => Value.string ⟨t.toArray⟩) ∧ Below W.heap.size W W' := by
  obtain ⟨kvs, h1, h2⟩ := h
  have k := stringsGet F ms s.data.toList M kvs W h1 h2 hF hz
  rw [ba_eta] at k
  refine k.mono ?_
  rintro e W' ⟨hb, ⟨hm, _⟩ | ⟨m', ss', hm, hs', b, cur, rfl, h3, h4⟩ | ⟨m', x, hm, hs', _⟩⟩
  · rw [hf] at hm; cases hm
  · rw [hf] at hm; cases hm
    rw [hs] at hs'
    have e1 : ss = ss' := (List.map_inj_right (fun _ _ h => Option.some.inj h)).1 (Sh.arr.inj hs')
    subst e1
    exact ⟨⟨b, cur, rfl, h3, h4⟩, hb⟩
  · rw [hf] at hm; cases hm
    exact absurd hs (hs' _)
theorem getSS_not (h : PM M ms W) (hF : F.answers W.tape) {m : Mb} (hf : findM s.data.toList ms = some m) (hs : ∀ ss : List (List UInt8), m.el.sh ≠ .arr (ss.map some)) :
    Calls Tryz.prog 16 #[.map (some M), .string s] W fun e W' => (∃ x, e = .returned (.tuple #[.slice none 0 0, .bool true, .iface 62 x])) ∧ Below W.heap.size W W' := by
  obtain ⟨kvs, h1, h2⟩ := h
  have k := stringsGet F ms s.data.toList M kvs W h1 h2 hF hz
  rw [ba_eta] at k
  refine k.mono ?_
  rintro e W' ⟨hb, ⟨hm, _⟩ | ⟨m', t', hm, hs', b, cur, rfl, _⟩ | ⟨m', x, hm, _, rfl⟩⟩
  · rw [hf] at hm; cases hm
  · rw [hf] at hm; cases hm
    exact absurd hs' (hs _)
  · exact ⟨⟨x, rfl⟩, hb⟩
end

set_option maxHeartbeats 2000000 in
theorem bytes17 (a b c : ByteArray) (w : World) : Calls Tryz.prog 17 #[.string a, .string b, .string c] w fun e w' => e = .returned (.bool (decide (a.size + b.size + c.size ≤ 1048576))) ∧ w' = w := by
  by_cases h : a.size + b.size + c.size ≤ 1048576
  · obtain ⟨V, hV⟩ : ∃ V, decide (a.size + b.size + c.size ≤ 1048576) = V := ⟨_, rfl⟩
    rw [hV]
    have HV : Aside (V = true) := by rw [← hV]; exact decide_eq_true h
    clear hV
    have h1 : ¬ (1048576 : Int) < (a.size : Int) := by omega
    have h2 : ¬ (1048576 : Int) < (b.size : Int) := by omega
    have h3 : ¬ (1048576 : Int) < (c.size : Int) := by omega
    have h4 : ¬ (1048576 : Int) < (a.size : Int) + (b.size : Int) := by omega
    have h5 : ¬ (1048576 : Int) < (a.size : Int) + (b.size : Int) + (c.size : Int) := by omega
    go_enter Tryz.func17, Tryz.ntmps17
    go_wp2
    go_ret
    exact ⟨ret_bool HV.out.symm, rfl⟩
  · obtain ⟨V, hV⟩ : ∃ V, decide (a.size + b.size + c.size ≤ 1048576) = V := ⟨_, rfl⟩
    rw [hV]
    have HV : Aside (V = false) := by rw [← hV]; exact decide_eq_false h
    clear hV
    go_enter Tryz.func17, Tryz.ntmps17
    go_wp2
    all_goals (try (exfalso; omega))
    all_goals
      go_ret
      exact ⟨ret_bool HV.out.symm, rfl⟩
end Go.Proofs.Qxb6604447aGreatFmt
