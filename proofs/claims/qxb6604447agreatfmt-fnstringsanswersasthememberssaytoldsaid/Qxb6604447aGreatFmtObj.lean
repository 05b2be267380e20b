/-
  The walk of object, its members' values by the contract of 'value'.
-/
import Derived.Test.Qxb6604447aGreatFmtArr
namespace Go.Proofs.Qxb6604447aGreatFmt
set_option maxRecDepth 1000000
open Go.RowKit Go.Lib

/-- A member: its name, and its value's text. -/
structure Mb where
  name : List UInt8
  el : El
def mtxt (m : Mb) : List UInt8 := enc m.name ++ 58 :: m.el.txt
def joinM : List Mb → List UInt8
  | [] => []
  | [m] => mtxt m
  | m :: n :: r => mtxt m ++ 44 :: 32 :: joinM (n :: r)
def objTxt (ms : List Mb) : List UInt8 := 123 :: (joinM ms ++ [125])
/-- Does the reader take these members, behind the names seen? -/
def okM : List (List UInt8) → List Mb → Bool
  | _, [] => true
  | seen, m :: r => valid m.name && !(seen.contains m.name) && m.el.ok && okM (seen ++ [m.name]) r
/-- The entries kvs are the members ms, each value as H says. -/
def Ent (H : Sh → Value → Prop) : List Mb → List (List UInt8 × Value) → Prop
  | [], [] => True
  | m :: ms, kv :: kvs => kv.1 = m.name ∧ H m.el.sh kv.2 ∧ Ent H ms kvs
  | _, _ => False
theorem Ent.mono {H H' : Sh → Value → Prop} (k : ∀ sh v, H sh v → H' sh v) : ∀ {ms : List Mb} {kvs : List (List UInt8 × Value)}, Ent H ms kvs → Ent H' ms kvs
  | [], [], _ => trivial
  | _ :: _, _ :: _, h => ⟨h.1, k _ _ h.2.1, Ent.mono k h.2.2⟩
  | [], _ :: _, h => h.elim
  | _ :: _, [], h => h.elim
theorem Ent.snoc {H : Sh → Value → Prop} {m : Mb} {v : Value} (hv : H m.el.sh v) : ∀ {ms : List Mb} {kvs : List (List UInt8 × Value)}, Ent H ms kvs → Ent H (ms ++ [m]) (kvs ++ [(m.name, v)])
  | [], [], _ => ⟨rfl, hv, trivial⟩
  | _ :: _, _ :: _, h => ⟨h.1, h.2.1, Ent.snoc hv h.2.2⟩
  | [], _ :: _, h => h.elim
  | _ :: _, [], h => h.elim
/-- What a look-up finds. -/
theorem Ent.look {H : Sh → Value → Prop} (k : List UInt8) : ∀ {ms : List Mb} {kvs : List (List UInt8 × Value)}, Ent H ms kvs →
    (kvs.lookup k = none ∧ ms.find? (fun m => k == m.name) = none) ∨ ∃ v m, kvs.lookup k = some v ∧ ms.find? (fun m => k == m.name) = some m ∧ H m.el.sh v
  | [], [], _ => Or.inl ⟨rfl, rfl⟩
  | m :: ms, (k1, v1) :: kvs, h => by
    have h1 : k1 = m.name := h.1
    subst h1
    cases hk : (k == m.name) with
    | true => exact Or.inr ⟨v1, m, by simp [List.lookup, hk], by simp [hk], h.2.1⟩
    | false =>
      rcases Ent.look k h.2.2 with ⟨a, b⟩ | ⟨v, m', a, b, c⟩
      · exact Or.inl ⟨by simp [List.lookup, hk, a], by simp [hk, b]⟩
      · exact Or.inr ⟨v, m', by simp [List.lookup, hk, a], by simp [hk, b], c⟩
  | [], _ :: _, h => h.elim
  | _ :: _, [], h => h.elim
theorem find_contains (k : List UInt8) : ∀ ms : List Mb, ((ms.map (·.name)).contains k) = (ms.find? (fun m => k == m.name)).isSome
  | [] => rfl
  | m :: ms => by
    cases hk : (k == m.name) with
    | true => simp only [List.map_cons, List.contains_cons, hk, Bool.true_or, List.find?_cons, Option.isSome_some]
    | false =>
      have := find_contains k ms
      simp only [List.map_cons, List.contains_cons, hk, Bool.false_or, this, List.find?_cons]

/-- The stays of a store into the map's block. -/
theorem Rd.put {R g : Nat} {L : List UInt8} {cap pos : Nat} {bv : Value} {bs : List UInt8} {W W' : World} {M : Nat} (h : Rd R g L cap pos bv bs W) (hp : Put M W W') (h1 : M ≠ R) (h2 : M ≠ g) (h3 : bv.ownBlock ≠ some M) : Rd R g L cap pos bv bs W' where
  blk := (hp.keep R h1.symm).trans h.blk
  dat := h.dat.keep (hp.keep g h2.symm)
  own := ownsRow_keep h.own (fun k hk => hp.keep k (fun e => h3 (by rw [hk, e])))
  neR := h.neR
  neG := h.neG
  neRG := h.neRG
  hpos := h.hpos
  hcap := h.hcap
  hmax := h.hmax
  hlen := h.hlen
theorem St.put {R : Nat} {bv b2 : Value} {W0 W W' : World} {M : Nat} (s : St R bv W0 b2 W) (hp : Put M W W') (h0 : W0.heap.size ≤ M) : St R bv W0 b2 W' where
  os := hp.os.trans s.os
  tape := hp.tape.trans s.tape
  output := hp.output.trans s.output
  size := by rw [hp.size]; exact s.size
  keep := fun k hk hR hb => (hp.keep k (by omega)).trans (s.keep k hk hR hb)
  buf := s.buf
theorem OwnA.cellsAt {b n c : Nat} {vs : List Value} {W : World} (h : OwnA (.slice (some ⟨b, 0, none⟩) n c) vs W) : ∃ cur, W.heap[b]? = some (.cells cur 20 (0, 0)) ∧ vs.length = n ∧ n ≤ cur.size ∧ cur.toList.take n = vs := by
  rcases h with ⟨_, ⟨h0, _⟩ | ⟨g, cap, cur, hv, _, hg, hn, _, hs, ht⟩⟩
  · cases h0
  · cases hv
    exact ⟨cur, hg, rfl, by omega, by simpa using ht⟩
theorem Kept.put {sh : Sh} {v : Value} {W W' : World} {M : Nat} {kvs : List (List UInt8 × Value)} (h : Kept sh v W) (hm : MapAt M kvs W) (hp : Put M W W') : Kept sh v W' := by
  refine h.keep fun b e => hp.keep b ?_
  intro e1
  subst e1
  cases sh with
  | str t => obtain rfl := h; cases e
  | arr os =>
    obtain ⟨b', n, c, vs, rfl, h1, _⟩ := h
    have e2 : b' = b := Option.some.inj e
    subst e2
    obtain ⟨cur, hc, _⟩ := h1.cellsAt
    obtain ⟨es, clock, hmm, _⟩ := hm
    rw [hc] at hmm; cases hmm
  | oth => rcases h with rfl | ⟨x, rfl⟩ | ⟨x, rfl⟩ | ⟨x, rfl⟩ <;> cases e

/-- What a call of object leaves. -/
def MPost (R g : Nat) (L : List UInt8) (cap p : Nat) (ok : Bool) (ms : List Mb) (bv : Value) (W : World) (e : Ending) (W' : World) : Prop :=
  (ok = true ∧ ∃ M kvs, e = .returned (.tuple #[.iface 27 (.map (some M)), .nilIface]) ∧ ∃ bv' bs', Rd R g L cap p bv' bs' W' ∧ St R bv W bv' W' ∧ MapAt M kvs W' ∧ Ent (fun sh v => Holds sh v R bv' W') ms kvs) ∨
  (ok = false ∧ ∃ v x, e = .returned (.tuple #[v, .iface 62 x]) ∧ ∃ bv', St R bv W bv' W')

/-- The loop's invariant. -/
def OI (R g : Nat) (L : List UInt8) (cap : Nat) (ms : List Mb) (rest : List UInt8) (M : Nat) (bv : Value) (W : World) (m : Nat) (wx : World) : Prop :=
  ∃ (p : Nat) (bv2 : Value) (bs2 sp : List UInt8) (done left : List Mb) (kvs : List (List UInt8 × Value)), ms = done ++ left ∧ m = left.length ∧ 0 < m ∧ (sp = [] ∨ sp = [32]) ∧ L.drop p = sp ++ (joinM left ++ 125 :: rest) ∧
    MapAt M kvs wx ∧ Ent (fun sh v => Holds sh v R bv2 wx) done kvs ∧ okM [] ms = okM (done.map (·.name)) left ∧ bv2.ownBlock ≠ some M ∧ Rd R g L cap p bv2 bs2 wx ∧ St R bv W bv2 wx

/-- skipSpace where a space stands, or none. -/
theorem skipS {R g : Nat} {L : List UInt8} {cap pos : Nat} {bv : Value} {bs : List UInt8} (W : World) (h : Rd R g L cap pos bv bs W) {sp : List UInt8} (hsp : sp = [] ∨ sp = [32]) {c : UInt8} {l : List UInt8} (hd : L.drop pos = sp ++ c :: l) (hc : isSp c = false) :
    Calls Tryz.prog 21 #[.pointer (some ⟨R, 0, none⟩)] W fun e W' => e = .returned (.tuple #[]) ∧ Rd R g L cap (pos + sp.length) bv bs W' ∧ St R bv W bv W' := by
  rcases hsp with rfl | rfl
  · exact skip0 W h hd hc
  · exact skip1 W h hd rfl hc

theorem joinM_head (m : Mb) (r : List Mb) : ∃ tl, joinM (m :: r) = enc m.name ++ 58 :: (m.el.txt ++ tl) ∧ ((r = [] ∧ tl = []) ∨ (r ≠ [] ∧ tl = 44 :: 32 :: joinM r)) := by
  cases r with
  | nil => exact ⟨[], by simp [joinM, mtxt], Or.inl ⟨rfl, rfl⟩⟩
  | cons n r => exact ⟨44 :: 32 :: joinM (n :: r), by simp [joinM, mtxt], Or.inr ⟨by simp, rfl⟩⟩

theorem okM_bad {seen : List (List UInt8)} {m : Mb} {r : List Mb} (h : valid m.name = false ∨ seen.contains m.name = true ∨ m.el.ok = false) : okM seen (m :: r) = false := by
  rcases h with h | h | h
  · simp only [okM, h, Bool.false_and]
  · simp only [okM, h, Bool.not_true, Bool.and_false, Bool.false_and]
  · simp only [okM, h, Bool.and_false, Bool.false_and]
theorem okM_good {seen : List (List UInt8)} {m : Mb} {r : List Mb} (h1 : valid m.name = true) (h2 : seen.contains m.name = false) (h3 : m.el.ok = true) : okM seen (m :: r) = okM (seen ++ [m.name]) r := by
  simp only [okM, h1, h2, h3, Bool.not_false, Bool.true_and]
theorem ent_step {R : Nat} {bv bv' : Value} {W W' : World} {ms : List Mb} {kvs : List (List UInt8 × Value)} (h : Ent (fun sh v => Holds sh v R bv W) ms kvs) (s : St R bv W bv' W') : Ent (fun sh v => Holds sh v R bv' W') ms kvs := h.mono fun _ _ k => k.step s
theorem MapAt.step {M R : Nat} {bv bv' : Value} {W W' : World} {kvs : List (List UInt8 × Value)} (h : MapAt M kvs W) (s : St R bv W bv' W') (h1 : M ≠ R) (h2 : bv.ownBlock ≠ some M) : MapAt M kvs W' ∧ bv'.ownBlock ≠ some M := by
  refine ⟨h.keep (s.keep M h.lt h1 h2), fun e => ?_⟩
  rcases s.buf M e with e | e
  · exact h2 e
  · have := h.lt; omega

set_option maxHeartbeats 4000000 in
theorem objectW (F : Go.Stop.Interp) (d : Nat) (ms : List Mb) (hd10 : d < 10000) (hv : ∀ m ∈ ms, VC F (d + 1) m.el.txt m.el.ok m.el.sh) (hn : ∀ m ∈ ms, m.name.length ≤ 1048576)
    (R g : Nat) (L : List UInt8) (cap pos : Nat) (bv : Value) (bs : List UInt8) (W : World) (rest : List UInt8) (h : Rd R g L cap pos bv bs W) (hd : L.drop pos = objTxt ms ++ rest) (hb : Base F R bv W) :
    Calls Tryz.prog 30 #[.pointer (some ⟨R, 0, none⟩), .int .i64 (d : Int)] W (MPost R g L cap (pos + (objTxt ms).length) (okM [] ms) ms bv W) := by
  obtain ⟨E, hE⟩ : ∃ E, pos + (objTxt ms).length = E := ⟨_, rfl⟩
  rw [hE]
  have HE : Aside (pos + (objTxt ms).length = E) := hE
  have HR : Aside (Rd R g L cap pos bv bs W) := h
  have hd0 : L.drop pos = 123 :: (joinM ms ++ 125 :: rest) := by rw [hd, objTxt]; simp
  have HD0 : Aside (L.drop pos = 123 :: (joinM ms ++ 125 :: rest)) := hd0
  have HB : Aside (Base F R bv W) := hb
  have hlt := drop_lt hd0
  have c1 := h.c1
  have f1 := h.fz 1
  have hlen := h.hlen
  have hR := h.ltR
  have c1a : ∀ o, (W.alloc o).cell? ⟨R, 1, none⟩ = some (.int .i64 (pos : Int)) := fun o => (World.cell?_alloc_lt (w := W) (a := ⟨R, 1, none⟩) (o := o) hR).trans c1
  have HV : Aside (∀ m ∈ ms, VC F (d + 1) m.el.txt m.el.ok m.el.sh) := hv
  have HN : Aside (∀ m ∈ ms, m.name.length ≤ 1048576) := hn
  have hmm := @run_makeMap Tryz.prog
  clear h hd hd0 hb hE hv hn
  go_enter Tryz.func30, Tryz.ntmps30
  go_wp2_with fail
  have R0 : Aside (Rd R g L cap (pos + 1) bv bs ((W.setCell ⟨R, 1, none⟩ (.int .i64 ((pos + 1 : Nat) : Int))).alloc (.map #[] 0))) := (HR.out.move (pos + 1) (by omega)).alloc _
  have S0 : Aside (St R bv W bv ((W.setCell ⟨R, 1, none⟩ (.int .i64 ((pos + 1 : Nat) : Int))).alloc (.map #[] 0))) := ((St.refl R bv W).setR 1 _).alloc _
  have M0 : Aside (MapAt W.heap.size [] ((W.setCell ⟨R, 1, none⟩ (.int .i64 ((pos + 1 : Nat) : Int))).alloc (.map #[] 0))) := by
    have := MapAt.new (W.setCell ⟨R, 1, none⟩ (.int .i64 ((pos + 1 : Nat) : Int)))
    simp only [World.size_setCell] at this
    exact this
  have hRne : W.heap.size ≠ R := by omega
  have HGN : Aside (W.heap.size ≠ g) := by
    have := HR.out.dat.lt
    show W.heap.size ≠ g
    omega
  have hbne : bv.ownBlock ≠ some W.heap.size := fun e => by have := Own.lt HR.out.own e; omega
  have HBN : Aside (bv.ownBlock ≠ some W.heap.size) := hbne
  clear c1 f1 c1a hbne hmm
  have hcase : ms = [] ∨ ∃ m0 r, ms = m0 :: r := by
    cases ms with
    | nil => exact Or.inl rfl
    | cons m0 r => exact Or.inr ⟨m0, r, rfl⟩
  rcases hcase with rfl | ⟨m0, r0, hel⟩
  · have HD1 : Aside (L.drop (pos + 1) = 125 :: rest) := drop_next HD0.out
    refine (skip0 _ R0.out HD1.out rfl).mono ?_
    rintro e W1 ⟨rfl, h1, s1⟩
    have H1 : Aside (Rd R g L cap (pos + 1) bv bs W1) := h1
    have S1 : Aside (St R bv _ bv W1) := s1
    clear h1 s1
    go_wp2_with fail
    refine (next_yes 125 _ H1.out (drop_get HD1.out)).mono ?_
    rintro e W2 ⟨rfl, h2, s2⟩
    have H2 : Aside (Rd R g L cap (pos + 1 + 1) bv bs W2) := h2
    have S2 : Aside (St R bv _ bv W2) := S1.out.trans s2
    clear h2 s2
    go_wp2
    go_ret2
    have he : pos + 1 + 1 = E := HE.out
    refine Or.inl ⟨rfl, _, [], rfl, bv, bs, ?_, S0.out.trans S2.out, (M0.out.step S2.out hRne HBN.out).1, trivial⟩
    rw [← he]; exact H2.out
  · obtain ⟨tl0, htl0, _⟩ := joinM_head m0 r0
    have HD1 : Aside (L.drop (pos + 1) = joinM ms ++ 125 :: rest) := drop_next HD0.out
    have HD2 : Aside (∃ l, L.drop (pos + 1) = 34 :: l) := ⟨_, by rw [HD1.out, hel, htl0]; rfl⟩
    have HNE : Aside (0 < ms.length) := by show 0 < ms.length; rw [hel]; simp
    clear hel htl0
    obtain ⟨l1, hl1⟩ := HD2.out
    have HL1 : Aside (L.drop (pos + 1) = 34 :: l1) := hl1
    clear hl1
    refine (skip0 _ R0.out HL1.out rfl).mono ?_
    rintro e W1 ⟨rfl, h1, s1⟩
    have H1 : Aside (Rd R g L cap (pos + 1) bv bs W1) := h1
    have S1 : Aside (St R bv _ bv W1) := s1
    clear h1 s1
    go_wp2_with fail
    refine (next_no 125 _ H1.out (by rw [drop_get HL1.out]; decide)).mono ?_
    rintro e W2 ⟨rfl, h2, s2⟩
    have H2 : Aside (Rd R g L cap (pos + 1) bv bs W2) := h2
    have S2 : Aside (St R bv _ bv W2) := S1.out.trans s2
    have M2 : Aside (MapAt W.heap.size [] W2) := (M0.out.step S2.out hRne HBN.out).1
    clear h2 s2
    go_wp2_with fail
    go_loopg [] ms.length (OI R g L cap ms rest W.heap.size bv W)
    case atStart => exact ⟨pos + 1, bv, bs, [], [], ms, [], rfl, rfl, HNE.out, Or.inl rfl, HD1.out, M2.out, trivial, rfl, HBN.out, H2.out, S0.out.trans S2.out⟩
    case round =>
      obtain ⟨p, bv2, bs2, sp, done, left, kvs, hms, hm, h0m, hsp, hdr, hma, hent, hok, hbb, h1, s1⟩ := hrel
      cases left with
      | nil => rw [hm] at h0m; exact absurd h0m (by simp)
      | cons m r =>
        have HMS : Aside (ms = done ++ m :: r) := hms
        have HM : Aside (gk = (m :: r).length) := hm
        have HMA : Aside (MapAt W.heap.size kvs wr) := hma
        have HENT : Aside (Ent (fun sh v => Holds sh v R bv2 wr) done kvs) := hent
        have HOK : Aside (okM [] ms = okM (done.map (·.name)) (m :: r)) := hok
        have HBB : Aside (bv2.ownBlock ≠ some W.heap.size) := hbb
        have H1 : Aside (Rd R g L cap p bv2 bs2 wr) := h1
        have S1 : Aside (St R bv W bv2 wr) := s1
        have HSP : Aside (sp = [] ∨ sp = [32]) := hsp
        obtain ⟨tl, htl, htc⟩ := joinM_head m r
        have HDR : Aside (L.drop p = sp ++ 34 :: (encB m.name ++ [34] ++ 58 :: (m.el.txt ++ (tl ++ 125 :: rest)))) := by
          show _ = _
          rw [hdr, htl, enc]; simp
        have HTC : Aside ((r = [] ∧ tl = []) ∨ (r ≠ [] ∧ tl = 44 :: 32 :: joinM r)) := htc
        have HTM : Aside (Term (tl ++ 125 :: rest)) := by
          rcases htc with ⟨_, h⟩ | ⟨_, h⟩
          · exact ⟨125, rest, by rw [h]; rfl, Or.inr (Or.inr rfl)⟩
          · exact ⟨44, _, by rw [h]; rfl, Or.inl rfl⟩
        have HVE : Aside (VC F (d + 1) m.el.txt m.el.ok m.el.sh) := HV.out m (by rw [hms]; simp)
        have HNM : Aside (m.name.length ≤ 1048576) := HN.out m (by rw [hms]; simp)
        have HDR2 : Aside (L.drop (p + sp.length) = enc m.name ++ (58 :: (m.el.txt ++ (tl ++ 125 :: rest)))) := by
          show _ = _
          rw [drop_add HDR.out, enc]; simp
        have HDR3 : Aside (L.drop (p + sp.length + (enc m.name).length) = 58 :: (m.el.txt ++ (tl ++ 125 :: rest))) := drop_add HDR2.out
        have HDR4 : Aside (L.drop (p + sp.length + (enc m.name).length + 1) = m.el.txt ++ (tl ++ 125 :: rest)) := drop_next HDR3.out
        clear hms hm h0m hsp hdr hma hent hok hbb h1 s1 htl htc
        go_wp2_with fail
        refine (skipS _ H1.out HSP.out HDR.out rfl).mono ?_
        rintro e2 W3 ⟨rfl, h3, s3⟩
        have H3 : Aside (Rd R g L cap (p + sp.length) bv2 bs2 W3) := h3
        have S3 : Aside (St R bv2 wr bv2 W3) := s3
        clear h3 s3
        go_wp2_with fail
        refine (at_yes 34 _ H3.out (drop_get (l := encB m.name ++ [34] ++ 58 :: (m.el.txt ++ (tl ++ 125 :: rest))) (by rw [HDR2.out, enc]; simp))).mono ?_
        rintro e2 W4 ⟨rfl, h4, s4⟩
        have H4 : Aside (Rd R g L cap (p + sp.length) bv2 bs2 W4) := h4
        have S4 : Aside (St R bv2 wr bv2 W4) := S3.out.trans s4
        clear h4 s4
        go_wp2_with fail
        have B4 := HB.out.step hR (S1.out.trans S4.out)
        refine (stringW F _ H4.out m.name _ HDR2.out HNM.out B4.ans B4.tabs.u8 (Nat.le_trans (by omega) B4.r3) (fun k e => Nat.le_trans (by omega) (B4.b3 k e))).mono ?_
        rintro e2 W5 (⟨hval, rfl, bv5, bs5, h5, s5⟩ | ⟨hval, ⟨x, rfl⟩, bv5, s5⟩)
        · have H5 : Aside (Rd R g L cap (p + sp.length + (enc m.name).length) bv5 bs5 W5) := h5
          have S5 : Aside (St R bv2 wr bv5 W5) := S4.out.trans s5
          have HVL : Aside (valid m.name = true) := hval
          have M5 : Aside (MapAt W.heap.size kvs W5 ∧ bv5.ownBlock ≠ some W.heap.size) := HMA.out.step S5.out hRne HBB.out
          have E5 : Aside (Ent (fun sh v => Holds sh v R bv5 W5) done kvs) := ent_step HENT.out S5.out
          have T5 : Aside (St R bv W bv5 W5) := S1.out.trans S5.out
          clear hval h5 s5 B4
          rcases Ent.look m.name E5.out with ⟨hlk, hfd⟩ | ⟨v0, m1, hlk, hfd, _⟩
          · have HLK : Aside (kvs.lookup m.name = none) := hlk
            have HFD : Aside ((done.map (·.name)).contains m.name = false) := by
              show _ = false
              rw [find_contains, hfd]; rfl
            clear hlk hfd
            go_wp2_with (at_lookup; refine wpl_look _ rfl _ _ 27 rfl Tryz.underlying27 W.heap.size kvs rfl M5.out.1 m.name rfl .nilIface false (by rw [HLK.out]; rfl) (by rw [HLK.out]; rfl) ?_)
            refine (skip0 _ H5.out HDR3.out rfl).mono ?_
            rintro e2 W6 ⟨rfl, h6, s6⟩
            have H6 : Aside (Rd R g L cap (p + sp.length + (enc m.name).length) bv5 bs5 W6) := h6
            have S6 : Aside (St R bv5 W5 bv5 W6) := s6
            clear h6 s6
            go_wp2_with fail
            refine (next_yes 58 _ H6.out (drop_get HDR3.out)).mono ?_
            rintro e2 W7 ⟨rfl, h7, s7⟩
            have H7 : Aside (Rd R g L cap (p + sp.length + (enc m.name).length + 1) bv5 bs5 W7) := h7
            have S7 : Aside (St R bv5 W5 bv5 W7) := S6.out.trans s7
            clear h7 s7
            go_wp2_with fail
            refine (HVE.out R g L cap _ bv5 bs5 _ _ H7.out HDR4.out HTM.out (HB.out.step hR (T5.out.trans S7.out))).mono ?_
            rintro e2 W8 (⟨hok, v, rfl, bv8, bs8, h8, s8, hh8⟩ | ⟨hok, v, x, rfl, bv8, s8⟩)
            · have H8 : Aside (Rd R g L cap (p + sp.length + (enc m.name).length + 1 + m.el.txt.length) bv8 bs8 W8) := h8
              have S8 : Aside (St R bv5 W5 bv8 W8) := S7.out.trans s8
              have HH8 : Aside (Holds m.el.sh v R bv8 W8) := hh8
              have M8 : Aside (MapAt W.heap.size kvs W8 ∧ bv8.ownBlock ≠ some W.heap.size) := M5.out.1.step S8.out hRne M5.out.2
              have E8 : Aside (Ent (fun sh v => Holds sh v R bv8 W8) done kvs) := ent_step E5.out S8.out
              have T8 : Aside (St R bv W bv8 W8) := T5.out.trans S8.out
              have HOE : Aside (m.el.ok = true) := hok
              have HDR5 : Aside (L.drop (p + sp.length + (enc m.name).length + 1 + m.el.txt.length) = tl ++ 125 :: rest) := drop_add HDR4.out
              clear hok h8 s8 hh8
              go_wp2_with (at_mapUpdate; refine wpl_upd _ rfl _ _ _ rfl W.heap.size kvs rfl M8.out.1 m.name rfl HLK.out v rfl ?_)
              intro W9 m9 p9
              have M9 : Aside (MapAt W.heap.size (kvs ++ [(m.name, v)]) W9) := m9
              have H9 : Aside (Rd R g L cap (p + sp.length + (enc m.name).length + 1 + m.el.txt.length) bv8 bs8 W9) := H8.out.put p9 hRne HGN.out M8.out.2
              have T9 : Aside (St R bv W bv8 W9) := T8.out.put p9 (Nat.le_refl _)
              have E9 : Aside (Ent (fun sh v => Holds sh v R bv8 W9) (done ++ [m]) (kvs ++ [(m.name, v)])) :=
                (E8.out.mono fun _ _ k => ⟨k.1.put M8.out.1 p9, k.2⟩).snoc ⟨HH8.out.1.put M8.out.1 p9, HH8.out.2⟩
              have HOK9 : Aside (okM [] ms = okM ((done ++ [m]).map (·.name)) r) := by
                show _ = _
                rw [HOK.out, okM_good HVL.out HFD.out HOE.out, List.map_append]; rfl
              clear m9 p9
              go_wp2_with fail
              rcases HTC.out with ⟨hr, htl⟩ | ⟨hr, htl⟩
              · have HDT : Aside (L.drop (p + sp.length + (enc m.name).length + 1 + m.el.txt.length) = 125 :: rest) := by show _ = _; rw [HDR5.out, htl]; rfl
                have HE2 : Aside (p + sp.length + (enc m.name).length + 1 + m.el.txt.length + 1 = E) := by
                  have e1 := congrArg List.length HDT.out
                  have e2 := congrArg List.length HD0.out
                  have e3 := HE.out
                  show p + sp.length + (enc m.name).length + 1 + m.el.txt.length + 1 = E
                  simp only [objTxt, List.length_drop, List.length_append, List.length_cons, List.length_nil] at e1 e2 e3
                  omega
                have HRN : Aside (r = []) := hr
                clear hr htl
                refine (skip0 _ H9.out HDT.out rfl).mono ?_
                rintro e1 Wa ⟨rfl, ha, sa⟩
                have Ha : Aside (Rd R g L cap (p + sp.length + (enc m.name).length + 1 + m.el.txt.length) bv8 bs8 Wa) := ha
                have Sa : Aside (St R bv8 W9 bv8 Wa) := sa
                clear ha sa
                go_wp2_with fail
                refine (next_yes 125 _ Ha.out (drop_get HDT.out)).mono ?_
                rintro e1 Wb ⟨rfl, hb, sb⟩
                have Hb : Aside (Rd R g L cap (p + sp.length + (enc m.name).length + 1 + m.el.txt.length + 1) bv8 bs8 Wb) := hb
                have Sb : Aside (St R bv8 W9 bv8 Wb) := Sa.out.trans sb
                clear hb sb
                go_wp2
                go_ret2
                refine Or.inl ⟨?_, _, _, rfl, bv8, bs8, ?_, T9.out.trans Sb.out, (M9.out.step Sb.out hRne M8.out.2).1, ?_⟩
                · rw [HOK9.out, HRN.out]; rfl
                · rw [← HE2.out]; exact Hb.out
                · have := ent_step E9.out Sb.out
                  rw [HMS.out, HRN.out]; exact this
              · have HDT : Aside (L.drop (p + sp.length + (enc m.name).length + 1 + m.el.txt.length) = 44 :: ([32] ++ (joinM r ++ 125 :: rest))) := by show _ = _; rw [HDR5.out, htl]; rfl
                have HRN : Aside (r ≠ []) := hr
                clear hr htl
                refine (skip0 _ H9.out HDT.out rfl).mono ?_
                rintro e1 Wa ⟨rfl, ha, sa⟩
                have Ha : Aside (Rd R g L cap (p + sp.length + (enc m.name).length + 1 + m.el.txt.length) bv8 bs8 Wa) := ha
                have Sa : Aside (St R bv8 W9 bv8 Wa) := sa
                clear ha sa
                go_wp2_with fail
                refine (next_no 125 _ Ha.out (by rw [drop_get HDT.out]; decide)).mono ?_
                rintro e1 Wb ⟨rfl, hb, sb⟩
                have Hb : Aside (Rd R g L cap (p + sp.length + (enc m.name).length + 1 + m.el.txt.length) bv8 bs8 Wb) := hb
                have Sb : Aside (St R bv8 W9 bv8 Wb) := Sa.out.trans sb
                clear hb sb
                go_wp2_with fail
                refine (next_yes 44 _ Hb.out (drop_get HDT.out)).mono ?_
                rintro e1 Wc ⟨rfl, hc, sc⟩
                have Hc : Aside (Rd R g L cap (p + sp.length + (enc m.name).length + 1 + m.el.txt.length + 1) bv8 bs8 Wc) := hc
                have Sc : Aside (St R bv8 W9 bv8 Wc) := Sb.out.trans sc
                clear hc sc
                go_wp2
                go_roundg (gk - 1)
                case measure =>
                  have := HM.out
                  rw [List.length_cons] at this
                  omega
                case rel =>
                  refine ⟨_, bv8, bs8, [32], done ++ [m], r, kvs ++ [(m.name, v)], ?_, ?_, ?_, Or.inr rfl, drop_next HDT.out, (M9.out.step Sc.out hRne M8.out.2).1, ent_step E9.out Sc.out, HOK9.out, M8.out.2, Hc.out, T9.out.trans Sc.out⟩
                  · rw [HMS.out]; simp
                  · have := HM.out
                    rw [List.length_cons] at this
                    omega
                  · have := HM.out
                    rw [List.length_cons] at this
                    have := List.length_pos_iff.2 HRN.out
                    omega
            · have S8 : Aside (St R bv5 W5 bv8 W8) := S7.out.trans s8
              have M8 : Aside (MapAt W.heap.size kvs W8 ∧ bv8.ownBlock ≠ some W.heap.size) := M5.out.1.step S8.out hRne M5.out.2
              have T8 : Aside (St R bv W bv8 W8) := T5.out.trans S8.out
              have HOE : Aside (m.el.ok = false) := hok
              clear hok s8
              go_wp2_with (at_mapUpdate; refine wpl_upd _ rfl _ _ _ rfl W.heap.size kvs rfl M8.out.1 m.name rfl HLK.out v rfl ?_)
              intro W9 m9 p9
              have T9 : Aside (St R bv W bv8 W9) := T8.out.put p9 (Nat.le_refl _)
              clear m9 p9
              go_wp2
              go_ret2
              refine Or.inr ⟨?_, _, _, rfl, _, T9.out⟩
              rw [HOK.out]; exact okM_bad (Or.inr (Or.inr HOE.out))
          · have HLK : Aside (kvs.lookup m.name = some v0) := hlk
            have HFD : Aside ((done.map (·.name)).contains m.name = true) := by
              show _ = true
              rw [find_contains, hfd]; rfl
            clear hlk hfd
            go_wp2_with (at_lookup; refine wpl_look _ rfl _ _ 27 rfl Tryz.underlying27 W.heap.size kvs rfl M5.out.1 m.name rfl v0 true (by rw [HLK.out]; rfl) (by rw [HLK.out]; rfl) ?_)
            have B5 := HB.out.step hR T5.out
            refine (errorf_twice F ⟨m.name.toArray⟩ W5.heap.size _ (by exact B5.ans) (by exact cell_one_new W5 _ 20 0 _ rfl)).mono ?_
            rintro e2 W6 ⟨⟨x, rfl⟩, b6⟩
            have T6 : Aside (St R bv W bv5 W6) := (T5.out.alloc _).trans (Below.toSt b6 R _)
            clear b6 B5
            go_wp2
            go_ret2
            refine Or.inr ⟨?_, _, _, rfl, _, T6.out⟩
            rw [HOK.out]; exact okM_bad (Or.inr (Or.inl HFD.out))
        · have S5 : Aside (St R bv W bv5 W5) := (S1.out.trans S4.out).trans s5
          have HVL : Aside (valid m.name = false) := hval
          clear hval s5 B4
          go_wp2
          go_ret2
          refine Or.inr ⟨?_, _, _, rfl, _, S5.out⟩
          rw [HOK.out]; exact okM_bad (Or.inl HVL.out)
end Go.Proofs.Qxb6604447aGreatFmt
