/-
  The plain laws: the members as the reader's members; their texts, whether they are taken, which is found; lengths.
-/
import Derived.Test.Qxb6604447aGreatFmtLawD
import Derived.Test.Qxb6604447aGreatFmtFlt
import Derived.Test.Qxb6604447aGreatFmtAppO
import Derived.Test.Qxb6604447aGreatFmtSize
namespace Go.Proofs.Qxb6604447aGreatFmt
set_option maxRecDepth 1000000
open Go.RowKit Go.Lib

/-- The intruder, as an element. -/
def intrE (w : Nat) : El := if w = 0 then ⟨[110, 117, 108, 108], true, .oth⟩ else if w = 1 then ⟨[102, 97, 108, 115, 101], true, .oth⟩ else if w = 2 then ⟨[48], true, .oth⟩ else if w = 3 then ⟨arrTxt [], true, .arr []⟩ else ⟨[123, 125], true, .oth⟩
/-- A list with an intruder, as elements. -/
def mixE (p w : Nat) (ls : List ByteArray) : List El := (ls.map elS).take p ++ intrE w :: (ls.map elS).drop p
def arrE (els : List El) : El := ⟨arrTxt els, oks els, .arr (els.map (·.sh.cell))⟩
/-- A member's value, as an element. -/
def Mem.el (m : Mem) : El :=
  if m.kind = 0 then elS m.text else if m.kind = 1 then ⟨[110, 117, 108, 108], true, .oth⟩ else if m.kind = 2 then ⟨[116, 114, 117, 101], true, .oth⟩ else if m.kind = 3 then ⟨[45, 49, 50, 46, 53, 101, 49], true, .oth⟩
  else if m.kind = 4 then arrE (m.list.map elS) else if m.kind = 5 then ⟨[123, 125], true, .oth⟩ else arrE (mixE (m.kind % (m.list.length + 1)) (m.kind / 8 % 5) m.list)
def Mem.mb (m : Mem) : Mb := ⟨m.name.data.toList, m.el⟩

theorem joinE_jn : ∀ els : List El, joinE els = jn [44] (els.map (·.txt))
  | [] => rfl
  | [e] => rfl
  | e :: f :: r => by
    rw [joinE, joinE_jn (f :: r)]; rfl
theorem joinM_jn : ∀ ms : List Mb, joinM ms = jn [44, 32] (ms.map mtxt)
  | [] => rfl
  | [m] => rfl
  | m :: n :: r => by
    rw [joinM, joinM_jn (n :: r)]; rfl
theorem intrE_txt (w : Nat) : (intrE w).txt = intr w := by
  unfold intrE intr
  split
  · rfl
  · split
    · rfl
    · split
      · rfl
      · split <;> rfl
theorem elS_txts (ls : List ByteArray) : (ls.map elS).map (·.txt) = encs ls := by simp [encs, elS]
theorem mixE_txts (p w : Nat) (ls : List ByteArray) : (mixE p w ls).map (·.txt) = mixed p w ls := by
  rw [mixE, mixed, List.map_append, List.map_cons, intrE_txt, List.map_take, List.map_drop, elS_txts]
theorem el_txt (m : Mem) : m.el.txt = m.vtxt := by
  unfold Mem.el Mem.vtxt
  split
  · rfl
  · split
    · rfl
    · split
      · rfl
      · split
        · rfl
        · split
          · show arrTxt _ = _
            rw [arrTxt, joinE_jn, elS_txts]
          · split
            · rfl
            · show arrTxt _ = _
              rw [arrTxt, joinE_jn, mixE_txts]
theorem mb_txt (m : Mem) : mtxt m.mb = m.mtx := by rw [mtxt, Mem.mtx, ← el_txt]; rfl
theorem obj_txt (ms : List Mem) : [32] ++ (objTxt (ms.map Mem.mb) ++ [10]) = [32] ++ (123 :: (jn [44, 32] (ms.map Mem.mtx) ++ [125]) ++ [10]) := by
  rw [objTxt, joinM_jn, List.map_map]
  rw [show (mtxt ∘ Mem.mb) = Mem.mtx from funext mb_txt]

/-! ### What the reader makes of a value -/
theorem vcIntr (F : Go.Stop.Interp) (d : Nat) (hd : d < 9999) (w : Nat) : VC F d (intrE w).txt (intrE w).ok (intrE w).sh := by
  unfold intrE
  split
  · exact valNull F d
  · split
    · exact valFalse F d
    · split
      · exact valZero F d
      · split
        · exact valArr F d [] (by omega) (by simp) (by simp) (by simp)
        · exact valObj0 F d (by omega)
theorem hdIntr (w : Nat) : Hd (intrE w).txt := by
  unfold intrE
  split
  · exact ⟨_, _, rfl, rfl, by decide⟩
  · split
    · exact ⟨_, _, rfl, rfl, by decide⟩
    · split
      · exact ⟨_, _, rfl, rfl, by decide⟩
      · split
        · exact ⟨_, _, rfl, rfl, by decide⟩
        · exact ⟨_, _, rfl, rfl, by decide⟩
theorem vcS (F : Go.Stop.Interp) (d : Nat) (s : ByteArray) (hs : s.size ≤ 1048576) : VC F d (elS s).txt (elS s).ok (elS s).sh := valStr F d s.data.toList (by rw [len_list]; exact hs)
theorem hdS (s : ByteArray) : Hd (elS s).txt := ⟨34, _, rfl, rfl, by decide⟩
theorem mixE_mem {p w : Nat} {ls : List ByteArray} {e : El} (h : e ∈ mixE p w ls) : e = intrE w ∨ ∃ s ∈ ls, e = elS s := by
  rw [mixE, List.mem_append, List.mem_cons] at h
  rcases h with h | h | h
  · obtain ⟨s, h1, h2⟩ := List.mem_map.1 (List.mem_of_mem_take h)
    exact Or.inr ⟨s, h1, h2.symm⟩
  · exact Or.inl h
  · obtain ⟨s, h1, h2⟩ := List.mem_map.1 (List.mem_of_mem_drop h)
    exact Or.inr ⟨s, h1, h2.symm⟩
theorem mixE_len (p w : Nat) (ls : List ByteArray) : (mixE p w ls).length = ls.length + 1 := by
  simp [mixE]; omega
theorem vcM (F : Go.Stop.Interp) (m : Mem) (h : m.small) : VC F 1 m.el.txt m.el.ok m.el.sh := by
  obtain ⟨_, z2, z3, z4⟩ := h
  unfold Mem.el
  split
  · exact vcS F 1 _ z2
  · split
    · exact valNull F 1
    · split
      · exact valTrue F 1
      · split
        · exact valNum F 1
        · split
          · refine valArr F 1 _ (by omega) (by rw [List.length_map]; omega) (fun e he => ?_) (fun e he => ?_)
            · obtain ⟨s, h1, rfl⟩ := List.mem_map.1 he
              exact vcS F 2 s (z4 s h1)
            · obtain ⟨s, h1, rfl⟩ := List.mem_map.1 he
              exact hdS s
          · split
            · exact valObj0 F 1 (by omega)
            · refine valArr F 1 _ (by omega) (by rw [mixE_len]; omega) (fun e he => ?_) (fun e he => ?_)
              · rcases mixE_mem he with rfl | ⟨s, h1, rfl⟩
                · exact vcIntr F 2 (by omega) _
                · exact vcS F 2 s (z4 s h1)
              · rcases mixE_mem he with rfl | ⟨s, h1, rfl⟩
                · exact hdIntr _
                · exact hdS s

/-! ### Whether the members are taken -/
theorem oks_S (ls : List ByteArray) : oks (ls.map elS) = ls.all fun s => valid s.data.toList := by
  simp only [oks, List.all_map]; rfl
theorem intrE_ok (w : Nat) : (intrE w).ok = true := by
  unfold intrE
  split
  · rfl
  · split
    · rfl
    · split
      · rfl
      · split <;> rfl
theorem oks_mix (p w : Nat) (ls : List ByteArray) : oks (mixE p w ls) = ls.all fun s => valid s.data.toList := by
  rw [← oks_S, oks, oks, mixE, List.all_append, List.all_cons, intrE_ok, Bool.true_and, ← List.all_append, List.take_append_drop]
theorem el_ok (m : Mem) : m.okTxt = (valid m.name.data.toList && m.el.ok) := by
  unfold Mem.okTxt Mem.el
  congr 1
  by_cases h0 : m.kind = 0
  · rw [if_pos h0, h0]; simp [elS]
  by_cases h1 : m.kind = 1
  · rw [if_neg h0, if_pos h1, h1]; simp
  by_cases h2 : m.kind = 2
  · rw [if_neg h0, if_neg h1, if_pos h2, h2]; simp
  by_cases h3 : m.kind = 3
  · rw [if_neg h0, if_neg h1, if_neg h2, if_pos h3, h3]; simp
  by_cases h4 : m.kind = 4
  · rw [if_neg h0, if_neg h1, if_neg h2, if_neg h3, if_pos h4, h4]
    show _ = oks _
    rw [oks_S]; simp
  by_cases h5 : m.kind = 5
  · rw [if_neg h0, if_neg h1, if_neg h2, if_neg h3, if_neg h4, if_pos h5, h5]; simp
  rw [if_neg h0, if_neg h1, if_neg h2, if_neg h3, if_neg h4, if_neg h5]
  show _ = oks _
  rw [oks_mix]
  have h6 : 5 < m.kind := by omega
  simp [h0, h6]
theorem ba_dec (a b : ByteArray) : (a.data.toList == b.data.toList) = decide (a = b) := by
  rw [← ByteArray.toList_eq, ← ByteArray.toList_eq]; exact ba_tl a b
theorem any_or2 {α : Type} (p q : α → Bool) : ∀ l : List α, (l.any fun x => p x || q x) = (l.any p || l.any q)
  | [] => rfl
  | x :: l => by
    rw [List.any_cons, List.any_cons, List.any_cons, any_or2 p q l]
    cases p x <;> cases q x <;> cases l.any p <;> cases l.any q <;> rfl
theorem okM_eq : ∀ (ms : List Mem) (seen : List (List UInt8)), okM seen (ms.map Mem.mb) = (ms.all Mem.okTxt && (!hasDup ms && !(ms.any fun m => seen.contains m.name.data.toList)))
  | [], seen => rfl
  | m :: ms, seen => by
    rw [List.map_cons, okM, okM_eq ms, List.all_cons, hasDup, List.any_cons, el_ok]
    have e : (ms.any fun x => (seen ++ [m.mb.name]).contains x.name.data.toList) = ((ms.any fun x => seen.contains x.name.data.toList) || (ms.any fun x => decide (m.name = x.name))) := by
      rw [← any_or2]
      congr 1
      funext x
      rw [List.contains_append]
      congr 1
      show (List.contains [m.name.data.toList] x.name.data.toList) = _
      rw [List.contains_cons, List.contains_nil, Bool.or_false, ba_dec]
      exact decide_eq_decide.2 ⟨fun h => h.symm, fun h => h.symm⟩
    rw [e]
    show (valid m.name.data.toList && !seen.contains m.name.data.toList && m.el.ok && _) = _
    cases valid m.name.data.toList <;> cases seen.contains m.name.data.toList <;> cases m.el.ok <;> cases ms.all Mem.okTxt <;> cases hasDup ms <;> cases (ms.any fun m => seen.contains m.name.data.toList) <;> cases (ms.any fun x => decide (m.name = x.name)) <;> rfl
theorem okM_nil (ms : List Mem) : okM [] (ms.map Mem.mb) = !(hasDup ms || !ms.all Mem.okTxt) := by
  rw [okM_eq]
  have : (ms.any fun m => ([] : List (List UInt8)).contains m.name.data.toList) = false := by simp
  rw [this]
  cases hasDup ms <;> cases ms.all Mem.okTxt <;> rfl

/-! ### Which member is found -/
theorem findM_eq (ms : List Mem) (name : ByteArray) : findM name.data.toList (ms.map Mem.mb) = (ms.find? fun m => decide (m.name = name)).map Mem.mb := by
  rw [findM, List.find?_map]
  congr 1
  congr 1
  funext m
  show (name.data.toList == m.name.data.toList) = _
  rw [ba_dec]
  exact decide_eq_decide.2 ⟨fun h => h.symm, fun h => h.symm⟩
theorem sh_str {m : Mem} (h : m.kind = 0) : m.mb.el.sh = .str m.text.data.toList := by
  show m.el.sh = _
  rw [Mem.el, if_pos h]; rfl
theorem sh_notStr {m : Mem} (h : m.kind ≠ 0) : ∀ t, m.mb.el.sh ≠ .str t := by
  intro t
  show m.el.sh ≠ _
  rw [Mem.el, if_neg h]
  split
  · exact fun e => by cases e
  · split
    · exact fun e => by cases e
    · split
      · exact fun e => by cases e
      · split
        · exact fun e => by cases e
        · split
          · exact fun e => by cases e
          · exact fun e => by cases e
theorem sh_arr {m : Mem} (h : m.kind = 4) : m.mb.el.sh = .arr ((m.list.map fun s => s.data.toList).map some) := by
  show m.el.sh = _
  rw [Mem.el, if_neg (by omega), if_neg (by omega), if_neg (by omega), if_neg (by omega), if_pos h]
  show Sh.arr _ = _
  congr 1
  simp [List.map_map, elS, Sh.cell, Function.comp_def]
theorem intrE_cell (w : Nat) : (intrE w).sh.cell = none := by
  unfold intrE
  split
  · rfl
  · split
    · rfl
    · split
      · rfl
      · split <;> rfl
theorem sh_notArr {m : Mem} (h : m.kind ≠ 4) : ∀ ss : List (List UInt8), m.mb.el.sh ≠ .arr (ss.map some) := by
  intro ss
  show m.el.sh ≠ _
  unfold Mem.el
  split
  · exact fun e => by cases e
  · split
    · exact fun e => by cases e
    · split
      · exact fun e => by cases e
      · split
        · exact fun e => by cases e
        · split
          · exact fun e => by cases e
          · intro e
            have e1 : (mixE (m.kind % (m.list.length + 1)) (m.kind / 8 % 5) m.list).map (·.sh.cell) = ss.map some := Sh.arr.inj e
            have e2 : none ∈ (mixE (m.kind % (m.list.length + 1)) (m.kind / 8 % 5) m.list).map (·.sh.cell) := List.mem_map.2 ⟨intrE (m.kind / 8 % 5), by rw [mixE]; simp, intrE_cell _⟩
            rw [e1] at e2
            simp at e2
theorem sh_len {m : Mem} (h : m.small) : ∀ os, m.mb.el.sh = .arr os → os.length ≤ 4194304 := by
  intro os
  obtain ⟨_, _, z3, _⟩ := h
  show m.el.sh = _ → _
  unfold Mem.el
  split
  · exact fun e => by cases e
  · split
    · exact fun e => by cases e
    · split
      · exact fun e => by cases e
      · split
        · exact fun e => by cases e
        · split
          · intro e
            cases e
            rw [List.length_map, List.length_map]; omega
          · split
            · exact fun e => by cases e
            · intro e
              cases e
              rw [List.length_map, mixE_len]; omega
end Go.Proofs.Qxb6604447aGreatFmt
