/-
  The walk of array, its elements by the contract of 'value'; 'value' at an array.
-/
import Derived.Test.Qxb6604447aGreatFmtVal
namespace Go.Proofs.Qxb6604447aGreatFmt
set_option maxRecDepth 1000000
open Go.RowKit Go.Lib

theorem info20 : ∃ i, Tryz.prog.info? 20 = some i ∧ i.zero = some .nilIface ∧ i.size = 1 ∧ i.bytes = 16 := ⟨_, rfl, rfl, rfl, rfl⟩
theorem run_appA (W : World) (ty : TypeId) (v : Value) (vs : List Value) (hown : OwnA v vs W)
    (ad : Addr) (u : Value) (hu : W.cell? ad = some u) (h1 : u.oneCell' = true) (hb : vs.length ≤ 1099511627776) :
    ∃ v' W', (Builtin.append_ #[56, 56] ty #[v, .slice (some ad) 1 1]).run Tryz.prog W = .ok v' W' ∧ OwnA v' (vs ++ [u]) W' ∧ Gr v W v' W' ∧ ∃ g cap, v' = .slice (some ⟨g, 0, none⟩) (vs.length + 1) cap := by
  obtain ⟨i, hi, hz, hs1, hs2⟩ := info20
  obtain ⟨v', W', hr, ho, hg, _, hat⟩ := run_append_own_at (P := Tryz.prog) W 0 56 ty 20 i .nilIface 1 16 Tryz.underlying56 hi hz hs1 hs2 rfl (by decide) v vs.length vs hown ad 1 1 [u]
    rfl (fun j x hj => by
      cases j with
      | zero =>
        simp at hj; subst hj
        have : ad.add 0 = ad := by unfold Addr.add; split <;> simp_all
        rw [this]; exact hu
      | succ j => simp at hj) (fun x hx => by simp at hx; subst hx; exact h1) (by unfold maxLen; omega) (by omega) (Nat.zero_le _)
  have e2 : vs.length + 1 = (vs ++ [u]).length := by simp
  rw [e2] at ho
  refine ⟨v', W', hr, ho, ⟨hg.os, hg.tape, hg.output, hg.size, fun k hk hne => hg.block k hk (fun e => hne e.symm), fun k hk => ?_⟩, ?_⟩
  · rcases hat with hat | hat
    · rw [hat] at hk; exact Or.inl hk
    · rw [hat] at hk; exact Or.inr (Nat.le_of_eq (Option.some.inj hk))
  · rcases ho with ⟨_, ⟨_, h0⟩ | ⟨g, cap, cur, hv, _⟩⟩
    · simp at h0
    · exact ⟨g, cap, by rw [hv, e2]⟩
/-- A non-empty row's value. -/
def ShpA (v : Value) (n : Nat) : Prop := ∃ g cap, v = .slice (some ⟨g, 0, none⟩) n cap
theorem ShpA.get {v : Value} {n : Nat} (h : ShpA v n) : ∃ g cap, v = .slice (some ⟨g, 0, none⟩) n cap := h
section
variable {ops : Array Oper} {rest : List Oper} {o : Oper} {a : Act} {Q : Exit → Act → World → Prop}
theorem wpl_appA (W : World) (hgd : o.guard = none) (s x : Operand) (ho : o.op = .call { callee := .builtin .append, args := #[s, x], argTypes := #[56, 56] })
    (v : Value) (vs : List Value) (hs : a.eval s = v) (hown : OwnA v vs W)
    (ad : Addr) (u : Value) (hx : a.eval x = .slice (some ad) 1 1) (hu : W.cell? ad = some u) (h1 : u.oneCell' = true) (hb : vs.length ≤ 1099511627776)
    (h : ∀ v' W', OwnA v' (vs ++ [u]) W' → Gr v W v' W' → ShpA v' (vs.length + 1) → wpList Tryz.prog ops Q rest (a.put o.dst v') W') :
    wpList Tryz.prog ops Q (o :: rest) a W := by
  refine wpList_plain hgd fun K hK => ?_
  obtain ⟨v', W', hr, h2, h3, h4⟩ := run_appA W o.type v vs hown ad u hu h1 hb
  unfold Oper.wp execOp
  simp only [ho, resolve, invoke, builtin, Sem.run_bind, Sem.run_pure, Result.andThen_ok, List.map_toArray, List.map_cons, List.map_nil, hs, hx, hr]
  exact hK _ _ (h v' W' h2 h3 h4)
end

/-- A text that stands for a value, whether the reader takes it, and the value's shape. -/
structure El where
  txt : List UInt8
  ok : Bool
  sh : Sh
def joinE : List El → List UInt8
  | [] => []
  | [e] => e.txt
  | e :: f :: r => e.txt ++ 44 :: joinE (f :: r)
def arrTxt (els : List El) : List UInt8 := 91 :: (joinE els ++ [93])
def oks (els : List El) : Bool := els.all (·.ok)
/-- The text begins with a byte that is neither white nor a closing bracket. -/
def Hd (txt : List UInt8) : Prop := ∃ c l, txt = c :: l ∧ isSp c = false ∧ c ≠ 93

theorem Rd.alloc {R g : Nat} {L : List UInt8} {cap pos : Nat} {bv : Value} {bs : List UInt8} {W : World} (h : Rd R g L cap pos bv bs W) (o : Obj) : Rd R g L cap pos bv bs (W.alloc o) := h.below ((Below.refl _ _).alloc (Nat.le_refl _) _)
theorem drop_add {L : List UInt8} {p : Nat} {a r : List UInt8} (h : L.drop p = a ++ r) : L.drop (p + a.length) = r := by rw [← List.drop_drop, h, List.drop_left]
theorem oks_snoc (l : List El) (e : El) : oks (l ++ [e]) = (oks l && e.ok) := by simp [oks]
theorem oks_bad {l r : List El} {e : El} (h : e.ok = false) : oks (l ++ e :: r) = false := by simp [oks, h]
theorem cells_nil (W : World) (t : TypeId) : (W.alloc (.cells #[] t)).heap[W.heap.size]? = some (.cells #[] t (0, 0)) := by
  show (W.heap.push _)[W.heap.size]? = _
  simp
theorem Good.shape {v : Value} (h : Good v) : v = .nilIface ∨ ∃ t x, v = .iface t x := by
  rcases h with ⟨t, rfl⟩ | rfl | ⟨x, rfl⟩ | ⟨x, rfl⟩ | ⟨x, rfl⟩ | ⟨x, rfl⟩
  · exact Or.inr ⟨_, _, rfl⟩
  · exact Or.inl rfl
  all_goals exact Or.inr ⟨_, _, rfl⟩
theorem Rd.grow2 {R g : Nat} {L : List UInt8} {cap pos : Nat} {bv : Value} {bs : List UInt8} {W W' : World} {a a' : Value} (h : Rd R g L cap pos bv bs W) (hg : Gr a W a' W') (h1 : a.ownBlock ≠ some R) (h2 : a.ownBlock ≠ some g) (h3 : ∀ k, bv.ownBlock = some k → a.ownBlock ≠ some k) : Rd R g L cap pos bv bs W' where
  blk := (hg.keep R h.ltR h1).trans h.blk
  dat := h.dat.keep (hg.keep g h.dat.lt h2)
  own := ownsRow_keep h.own (fun k hk => hg.keep k (Own.lt h.own hk) (h3 k hk))
  neR := h.neR
  neG := h.neG
  neRG := h.neRG
  hpos := h.hpos
  hcap := h.hcap
  hmax := h.hmax
  hlen := h.hlen
/-- A step that grows a row of the call's own is a step of the reader. -/
theorem St.grow {R : Nat} {bv b2 : Value} {W0 W W' : World} {a a' : Value} (s : St R bv W0 b2 W) (hg : Gr a W a' W') (h0 : ∀ k, a.ownBlock = some k → W0.heap.size ≤ k) : St R bv W0 b2 W' where
  os := hg.os.trans s.os
  tape := hg.tape.trans s.tape
  output := hg.output.trans s.output
  size := Nat.le_trans s.size hg.size
  keep := fun k hk hR hb => (hg.keep k (Nat.lt_of_lt_of_le hk s.size) (fun e => by have := h0 k e; omega)).trans (s.keep k hk hR hb)
  buf := s.buf
/-- The loop's invariant. -/
def AI (R g : Nat) (L : List UInt8) (cap : Nat) (els : List El) (rest : List UInt8) (bv : Value) (W : World) (m : Nat) (v : Value) (wx : World) : Prop :=
  ∃ (p b n c : Nat) (bv2 : Value) (bs2 : List UInt8) (done left : List El) (vs : List Value), els = done ++ left ∧ m = left.length ∧ 0 < m ∧ v = .slice (some ⟨b, 0, none⟩) n c ∧ L.drop p = joinE left ++ 93 :: rest ∧ n = vs.length ∧ vs.length = done.length ∧
    OwnA (.slice (some ⟨b, 0, none⟩) n c) vs wx ∧ vs.map cellOf = done.map (·.sh.cell) ∧ (∀ u ∈ vs, Good u) ∧ oks done = true ∧ W.heap.size ≤ b ∧ b ≠ R ∧ bv2.ownBlock ≠ some b ∧
    Rd R g L cap p bv2 bs2 wx ∧ St R bv W bv2 wx

set_option maxHeartbeats 4000000 in
theorem arrayW (F : Go.Stop.Interp) (d : Nat) (els : List El) (hd10 : d < 10000) (hln : els.length ≤ 4194304) (hv : ∀ e ∈ els, VC F (d + 1) e.txt e.ok e.sh) (hh : ∀ e ∈ els, Hd e.txt)
    (R g : Nat) (L : List UInt8) (cap pos : Nat) (bv : Value) (bs : List UInt8) (W : World) (rest : List UInt8) (h : Rd R g L cap pos bv bs W) (hd : L.drop pos = arrTxt els ++ rest) (hb : Base F R bv W) :
    Calls Tryz.prog 31 #[.pointer (some ⟨R, 0, none⟩), .int .i64 (d : Int)] W (VPost R g L cap (pos + (arrTxt els).length) (oks els) (.arr (els.map (·.sh.cell))) bv W) := by
  obtain ⟨E, hE⟩ : ∃ E, pos + (arrTxt els).length = E := ⟨_, rfl⟩
  rw [hE]
  have HE : Aside (pos + (arrTxt els).length = E) := hE
  have HR : Aside (Rd R g L cap pos bv bs W) := h
  have hd0 : L.drop pos = 91 :: (joinE els ++ 93 :: rest) := by rw [hd, arrTxt]; simp
  have HD0 : Aside (L.drop pos = 91 :: (joinE els ++ 93 :: rest)) := hd0
  have HB : Aside (Base F R bv W) := hb
  have hlt := drop_lt hd0
  have c1 := h.c1
  have f1 := h.fz 1
  have hlen := h.hlen
  have hR := h.ltR
  have c1a : ∀ o, (W.alloc o).cell? ⟨R, 1, none⟩ = some (.int .i64 (pos : Int)) := fun o => (World.cell?_alloc_lt (w := W) (a := ⟨R, 1, none⟩) (o := o) hR).trans c1
  have HV : Aside (∀ e ∈ els, VC F (d + 1) e.txt e.ok e.sh) := hv
  have HH : Aside (∀ e ∈ els, Hd e.txt) := hh
  clear h hd hd0 hb hE hv hh
  go_enter Tryz.func31, Tryz.ntmps31
  go_wp2_with fail
  have R0 : Aside (Rd R g L cap (pos + 1) bv bs ((W.setCell ⟨R, 1, none⟩ (.int .i64 ((pos + 1 : Nat) : Int))).alloc (.cells #[] 20))) := (HR.out.move (pos + 1) (by omega)).alloc _
  have S0 : Aside (St R bv W bv ((W.setCell ⟨R, 1, none⟩ (.int .i64 ((pos + 1 : Nat) : Int))).alloc (.cells #[] 20))) := ((St.refl R bv W).setR 1 _).alloc _
  have O0 : Aside (OwnA (.slice (some ⟨W.heap.size, 0, none⟩) 0 0) [] ((W.setCell ⟨R, 1, none⟩ (.int .i64 ((pos + 1 : Nat) : Int))).alloc (.cells #[] 20))) := by
    have := cells_nil (W.setCell ⟨R, 1, none⟩ (.int .i64 ((pos + 1 : Nat) : Int))) 20
    simp only [World.size_setCell] at this
    exact ⟨rfl, Or.inr ⟨W.heap.size, 0, #[], rfl, Nat.zero_le _, this, Nat.le_refl _, Nat.zero_le _, rfl, rfl⟩⟩
  have hRne : R ≠ W.heap.size := by omega
  have hbne : bv.ownBlock ≠ some W.heap.size := fun e => by have := Own.lt HR.out.own e; omega
  have HBN : Aside (bv.ownBlock ≠ some W.heap.size) := hbne
  clear c1 f1 c1a hbne
  have hcase : els = [] ∨ ∃ e0 r, els = e0 :: r := by
    cases els with
    | nil => exact Or.inl rfl
    | cons e0 r => exact Or.inr ⟨e0, r, rfl⟩
  rcases hcase with rfl | ⟨e0, r0, hel⟩
  · have HD1 : Aside (L.drop (pos + 1) = 93 :: rest) := drop_next HD0.out
    have HL2 : Aside (pos + 2 ≤ L.length) := drop_lt HD1.out
    refine (skip0 _ R0.out HD1.out rfl).mono ?_
    rintro e W1 ⟨rfl, h1, s1⟩
    have H1 : Aside (Rd R g L cap (pos + 1) bv bs W1) := h1
    have S1 : Aside (St R bv _ bv W1) := s1
    clear h1 s1
    go_wp2_with fail
    refine (next_yes 93 _ H1.out (drop_get HD1.out)).mono ?_
    rintro e W2 ⟨rfl, h2, s2⟩
    have H2 : Aside (Rd R g L cap (pos + 1 + 1) bv bs W2) := h2
    have S2 : Aside (St R bv _ bv W2) := S1.out.trans s2
    clear h2 s2
    go_wp2
    go_ret2
    have he : pos + 1 + 1 = E := HE.out
    refine Or.inl ⟨rfl, _, rfl, bv, bs, ?_, S0.out.trans S2.out, ⟨_, _, _, [], rfl, ?_, rfl, fun u hu => by cases hu⟩, ?_⟩
    · rw [← he]; exact H2.out
    · refine O0.out.keep fun k hk => S2.out.keep k ?_ ?_ ?_
      · exact O0.out.lt hk
      · have e : W.heap.size = k := Option.some.inj hk
        omega
      · have e : W.heap.size = k := Option.some.inj hk
        rw [← e]; exact HBN.out
    · intro b hb
      have e : W.heap.size = b := Option.some.inj hb
      subst e
      exact ⟨by omega, HBN.out⟩
  · obtain ⟨c0, l0, ht0, hsp0, h930⟩ := HH.out e0 (by rw [hel]; simp)
    have HJ : Aside (∃ l, joinE els = c0 :: l) := by
      show ∃ l, joinE els = c0 :: l
      rw [hel]
      cases r0 with
      | nil => exact ⟨l0, ht0⟩
      | cons f r => exact ⟨l0 ++ 44 :: joinE (f :: r), by rw [joinE, ht0]; rfl⟩
    have HD1 : Aside (L.drop (pos + 1) = joinE els ++ 93 :: rest) := drop_next HD0.out
    have HD2 : Aside (∃ l, L.drop (pos + 1) = c0 :: l) := by
      obtain ⟨l, hl⟩ := HJ.out
      exact ⟨l ++ 93 :: rest, by rw [HD1.out, hl]; rfl⟩
    have HSP : Aside (isSp c0 = false) := hsp0
    have H93 : Aside (L[pos + 1]? ≠ some 93) := by
      obtain ⟨l, hl⟩ := HD2.out
      show L[pos + 1]? ≠ some 93
      rw [drop_get hl]
      exact fun e => h930 (Option.some.inj e)
    clear ht0 hsp0 h930
    obtain ⟨l1, hl1⟩ := HD2.out
    have HL1 : Aside (L.drop (pos + 1) = c0 :: l1) := hl1
    clear hl1
    refine (skip0 _ R0.out HL1.out HSP.out).mono ?_
    rintro e W1 ⟨rfl, h1, s1⟩
    have H1 : Aside (Rd R g L cap (pos + 1) bv bs W1) := h1
    have S1 : Aside (St R bv _ bv W1) := s1
    clear h1 s1
    go_wp2_with fail
    refine (next_no 93 _ H1.out H93.out).mono ?_
    rintro e W2 ⟨rfl, h2, s2⟩
    have H2 : Aside (Rd R g L cap (pos + 1) bv bs W2) := h2
    have S2 : Aside (St R bv _ bv W2) := S1.out.trans s2
    have O2 : Aside (OwnA (.slice (some ⟨W.heap.size, 0, none⟩) 0 0) [] W2) := by
      refine O0.out.keep fun k hk => S2.out.keep k ?_ ?_ ?_
      · exact O0.out.lt hk
      · have e : W.heap.size = k := Option.some.inj hk
        omega
      · have e : W.heap.size = k := Option.some.inj hk
        rw [← e]; exact HBN.out
    clear h2 s2
    have HNE : Aside (0 < els.length) := by show 0 < els.length; rw [hel]; simp
    clear HJ hel
    go_wp2_with fail
    go_loopg [6] els.length (AI R g L cap els rest bv W)
    case atStart => exact ⟨pos + 1, W.heap.size, 0, 0, bv, bs, [], els, [], rfl, rfl, HNE.out, rfl, HD1.out, rfl, rfl, O2.out, rfl, (fun u hu => by cases hu), rfl, Nat.le_refl _, (fun e => hRne e.symm), HBN.out, H2.out, S0.out.trans S2.out⟩
    case round =>
      obtain ⟨p, b, n, c, bv2, bs2, done, left, vs, hels, hm, h0m, rfl, hdr, hn, hvd, hoa, hmap, hgood, hokd, hWb, hbR, hbb, h1, s1⟩ := hrel
      cases left with
      | nil => rw [hm] at h0m; exact absurd h0m (by simp)
      | cons e r =>
        have HELS : Aside (els = done ++ e :: r) := hels
        have HM : Aside (gk = (e :: r).length) := hm
        have HOA : Aside (OwnA (.slice (some ⟨b, 0, none⟩) n c) vs wr) := hoa
        have HMAP : Aside (vs.map cellOf = done.map (·.sh.cell)) := hmap
        have HGD : Aside (∀ u ∈ vs, Good u) := hgood
        have HOK : Aside (oks done = true) := hokd
        have HBB : Aside (bv2.ownBlock ≠ some b) := hbb
        have HN : Aside (n = vs.length) := hn
        have H1 : Aside (Rd R g L cap p bv2 bs2 wr) := h1
        have S1 : Aside (St R bv W bv2 wr) := s1
        have HX : Aside (∃ tl, L.drop p = e.txt ++ tl ∧ Term tl ∧ ((r = [] ∧ tl = 93 :: rest) ∨ (r ≠ [] ∧ tl = 44 :: (joinE r ++ 93 :: rest)))) := by
          cases r with
          | nil => exact ⟨93 :: rest, hdr, ⟨93, rest, rfl, Or.inr (Or.inl rfl)⟩, Or.inl ⟨rfl, rfl⟩⟩
          | cons f r => exact ⟨44 :: (joinE (f :: r) ++ 93 :: rest), by rw [hdr, joinE]; simp, ⟨44, _, rfl, Or.inl rfl⟩, Or.inr ⟨by simp, rfl⟩⟩
        have hln2 : vs.length ≤ 4194304 := by
          have := congrArg List.length hels
          rw [List.length_append] at this
          omega
        have HVE : Aside (VC F (d + 1) e.txt e.ok e.sh) := HV.out e (by rw [hels]; simp)
        have hbg : b ≠ g := by
          intro e1
          have := HR.out.dat.lt
          omega
        have HBG : Aside (b ≠ g) := hbg
        have HVD : Aside (vs.length = done.length) := hvd
        clear hels hm h0m hdr hn hvd hoa hmap hgood hokd hbb h1 s1 hbg
        obtain ⟨tl, htl, hterm, htc⟩ := HX.out
        have HTL : Aside (L.drop p = e.txt ++ tl) := htl
        have HTM : Aside (Term tl) := hterm
        have HTC : Aside ((r = [] ∧ tl = 93 :: rest) ∨ (r ≠ [] ∧ tl = 44 :: (joinE r ++ 93 :: rest))) := htc
        clear htl hterm htc HX
        go_wp2_with fail
        refine (HVE.out R g L cap p bv2 bs2 _ tl H1.out HTL.out HTM.out (HB.out.step hR S1.out)).mono ?_
        rintro e2 W3 (⟨hok, v, rfl, bv3, bs3, h3, s3, hh3⟩ | ⟨hok, v, x, rfl, bv3, s3⟩)
        · have H3 : Aside (Rd R g L cap (p + e.txt.length) bv3 bs3 W3) := h3
          have S3 : Aside (St R bv W bv3 W3) := S1.out.trans s3
          have HH3 : Aside (Holds e.sh v R bv3 W3) := hh3
          have OA3 : Aside (OwnA (.slice (some ⟨b, 0, none⟩) n c) vs W3) := HOA.out.keep fun k hk => by
            have e1 : b = k := Option.some.inj hk
            subst e1
            exact s3.keep b (HOA.out.lt hk) hbR HBB.out
          have HBB3 : Aside (bv3.ownBlock ≠ some b) := by
            show bv3.ownBlock ≠ some b
            intro e1
            rcases s3.buf b e1 with e1 | e1
            · exact HBB.out e1
            · have := HOA.out.lt (k := b) rfl
              omega
          have HOK3 : Aside (e.ok = true) := hok
          have hvc := hh3.1.good.1.shape
          have HLT : Aside (b < W3.heap.size) := OA3.out.lt (k := b) rfl
          clear hok h3 s3 hh3
          rcases hvc with rfl | ⟨vt, vx, rfl⟩
          · go_wp2_with (at_builtin; refine wpl_appA _ rfl _ _ rfl (.slice (some ⟨b, 0, none⟩) n c) vs rfl ?xo ⟨W3.heap.size, 0, none⟩ (.nilIface) rfl ?xc ?xd ?xb ?_)
            case xo => exact OA3.out.keep fun k hk => Below.heap_alloc _ _ _ (OA3.out.lt hk)
            case xc => exact cell_one_new W3 _ 20 0 _ rfl
            case xd => exact HH3.out.1.good.1.one
            case xb => omega
            intro v4 W4 own4 gr4 sh4
            obtain ⟨b4, c4, rfl⟩ := sh4.get
            have GR : Gr (.slice (some ⟨b, 0, none⟩) n c) W3 (.slice (some ⟨b4, 0, none⟩) (vs.length + 1) c4) W4 := ((Gr.refl _ W3).alloc _).trans gr4
            have O4 : Aside (OwnA (.slice (some ⟨b4, 0, none⟩) (vs.length + 1) c4) (vs ++ [Value.nilIface]) W4) := own4
            have H4 : Aside (Rd R g L cap (p + e.txt.length) bv3 bs3 W4) := H3.out.grow2 GR (fun e1 => hbR (Option.some.inj e1)) (fun e1 => HBG.out (Option.some.inj e1)) (fun k hk e1 => HBB3.out (by rw [hk, ← e1]; rfl))
            have S4 : Aside (St R bv W bv3 W4) := S3.out.grow GR (fun k hk => by have e1 : b = k := Option.some.inj hk; omega)
            have hb4 : b4 = b ∨ W3.heap.size ≤ b4 := by
              rcases GR.buf b4 rfl with e1 | e1
              · exact Or.inl (Option.some.inj e1).symm
              · exact Or.inr e1
            have HW4 : Aside (W.heap.size ≤ b4) := by
              have := S3.out.size
              show W.heap.size ≤ b4
              omega
            have HR4 : Aside (b4 ≠ R) := by
              have := HW4.out
              show b4 ≠ R
              omega
            have HBB4 : Aside (bv3.ownBlock ≠ some b4) := by
              show bv3.ownBlock ≠ some b4
              intro e1
              rcases hb4 with e2 | e2
              · rw [e2] at e1; exact HBB3.out e1
              · have := Own.lt H3.out.own e1
                omega
            have HMP4 : Aside ((vs ++ [Value.nilIface]).map cellOf = (done ++ [e]).map (·.sh.cell)) := by
              show _ = _
              rw [List.map_append, List.map_append, HMAP.out]
              congr 1
              rw [List.map_cons, List.map_cons, HH3.out.1.good.2]; rfl
            have HGD4 : Aside (∀ u ∈ vs ++ [Value.nilIface], Good u) := by
              show ∀ u ∈ vs ++ [Value.nilIface], Good u
              intro u hu
              rcases List.mem_append.1 hu with hu | hu
              · exact HGD.out u hu
              · rw [List.mem_singleton.1 hu]; exact HH3.out.1.good.1
            have HDT : Aside (L.drop (p + e.txt.length) = tl) := drop_add HTL.out
            clear own4 gr4 sh4 GR hb4
            go_wp2_with fail
            rcases HTC.out with ⟨hr, htl⟩ | ⟨hr, htl⟩
            · have HDT2 : Aside (L.drop (p + e.txt.length) = 93 :: rest) := HDT.out.trans htl
              have HE2 : Aside (p + e.txt.length + 1 = E) := by
                have e1 := congrArg List.length HDT2.out
                have e2 := congrArg List.length HD0.out
                have e3 := HE.out
                show p + e.txt.length + 1 = E
                simp only [arrTxt, List.length_drop, List.length_append, List.length_cons, List.length_nil] at e1 e2 e3
                omega
              have HRN : Aside (r = []) := hr
              clear hr htl
              refine (skip0 _ H4.out HDT2.out rfl).mono ?_
              rintro e1 W5 ⟨rfl, h5, s5⟩
              have H5 : Aside (Rd R g L cap (p + e.txt.length) bv3 bs3 W5) := h5
              have S5 : Aside (St R bv3 W4 bv3 W5) := s5
              clear h5 s5
              go_wp2_with fail
              refine (next_yes 93 _ H5.out (drop_get HDT2.out)).mono ?_
              rintro e1 W6 ⟨rfl, h6, s6⟩
              have H6 : Aside (Rd R g L cap (p + e.txt.length + 1) bv3 bs3 W6) := h6
              have S6 : Aside (St R bv3 W4 bv3 W6) := S5.out.trans s6
              clear h6 s6
              go_wp2
              go_ret2
              refine Or.inl ⟨?_, _, rfl, bv3, bs3, ?_, S4.out.trans S6.out, ⟨b4, _, _, vs ++ [Value.nilIface], rfl, ?_, ?_, HGD4.out⟩, ?_⟩
              · rw [HELS.out, HRN.out, oks_snoc, HOK.out, HOK3.out]; rfl
              · rw [← HE2.out]; exact H6.out
              · refine O4.out.keep fun k hk => ?_
                have e1 : b4 = k := Option.some.inj hk
                subst e1
                exact S6.out.keep b4 (O4.out.lt hk) HR4.out HBB4.out
              · rw [HMP4.out, HELS.out, HRN.out]
              · intro k hk
                have e1 : b4 = k := Option.some.inj hk
                subst e1
                exact ⟨HR4.out, HBB4.out⟩
            · have HDT2 : Aside (L.drop (p + e.txt.length) = 44 :: (joinE r ++ 93 :: rest)) := HDT.out.trans htl
              have HRN : Aside (r ≠ []) := hr
              clear hr htl
              refine (skip0 _ H4.out HDT2.out rfl).mono ?_
              rintro e1 W5 ⟨rfl, h5, s5⟩
              have H5 : Aside (Rd R g L cap (p + e.txt.length) bv3 bs3 W5) := h5
              have S5 : Aside (St R bv3 W4 bv3 W5) := s5
              clear h5 s5
              go_wp2_with fail
              refine (next_no 93 _ H5.out (by rw [drop_get HDT2.out]; decide)).mono ?_
              rintro e1 W6 ⟨rfl, h6, s6⟩
              have H6 : Aside (Rd R g L cap (p + e.txt.length) bv3 bs3 W6) := h6
              have S6 : Aside (St R bv3 W4 bv3 W6) := S5.out.trans s6
              clear h6 s6
              go_wp2_with fail
              refine (next_yes 44 _ H6.out (drop_get HDT2.out)).mono ?_
              rintro e1 W7 ⟨rfl, h7, s7⟩
              have H7 : Aside (Rd R g L cap (p + e.txt.length + 1) bv3 bs3 W7) := h7
              have S7 : Aside (St R bv3 W4 bv3 W7) := S6.out.trans s7
              have O7 : Aside (OwnA (.slice (some ⟨b4, 0, none⟩) (vs.length + 1) c4) (vs ++ [Value.nilIface]) W7) := O4.out.keep fun k hk => by
                have e1 : b4 = k := Option.some.inj hk
                subst e1
                exact S7.out.keep b4 (O4.out.lt hk) HR4.out HBB4.out
              clear h7 s7
              go_wp2
              go_roundg (gk - 1)
              case measure =>
                have := HM.out
                rw [List.length_cons] at this
                omega
              case rel =>
                refine ⟨p + e.txt.length + 1, b4, vs.length + 1, c4, bv3, bs3, done ++ [e], r, vs ++ [Value.nilIface], ?_, ?_, ?_, rfl, drop_next HDT2.out, ?_, ?_, O7.out, HMP4.out, HGD4.out, ?_, HW4.out, HR4.out, HBB4.out, H7.out, S4.out.trans S7.out⟩
                · rw [HELS.out]; simp
                · have := HM.out
                  rw [List.length_cons] at this
                  omega
                · have := HM.out
                  rw [List.length_cons] at this
                  have := List.length_pos_iff.2 HRN.out
                  omega
                · simp
                · have := HVD.out
                  simp only [List.length_append, List.length_cons, List.length_nil]
                  omega
                · rw [oks_snoc, HOK.out, HOK3.out]; rfl
          · go_wp2_with (at_builtin; refine wpl_appA _ rfl _ _ rfl (.slice (some ⟨b, 0, none⟩) n c) vs rfl ?xo ⟨W3.heap.size, 0, none⟩ (.iface vt vx) rfl ?xc ?xd ?xb ?_)
            case xo => exact OA3.out.keep fun k hk => Below.heap_alloc _ _ _ (OA3.out.lt hk)
            case xc => exact cell_one_new W3 _ 20 0 _ rfl
            case xd => exact HH3.out.1.good.1.one
            case xb => omega
            intro v4 W4 own4 gr4 sh4
            obtain ⟨b4, c4, rfl⟩ := sh4.get
            have GR : Gr (.slice (some ⟨b, 0, none⟩) n c) W3 (.slice (some ⟨b4, 0, none⟩) (vs.length + 1) c4) W4 := ((Gr.refl _ W3).alloc _).trans gr4
            have O4 : Aside (OwnA (.slice (some ⟨b4, 0, none⟩) (vs.length + 1) c4) (vs ++ [Value.iface vt vx]) W4) := own4
            have H4 : Aside (Rd R g L cap (p + e.txt.length) bv3 bs3 W4) := H3.out.grow2 GR (fun e1 => hbR (Option.some.inj e1)) (fun e1 => HBG.out (Option.some.inj e1)) (fun k hk e1 => HBB3.out (by rw [hk, ← e1]; rfl))
            have S4 : Aside (St R bv W bv3 W4) := S3.out.grow GR (fun k hk => by have e1 : b = k := Option.some.inj hk; omega)
            have hb4 : b4 = b ∨ W3.heap.size ≤ b4 := by
              rcases GR.buf b4 rfl with e1 | e1
              · exact Or.inl (Option.some.inj e1).symm
              · exact Or.inr e1
            have HW4 : Aside (W.heap.size ≤ b4) := by
              have := S3.out.size
              show W.heap.size ≤ b4
              omega
            have HR4 : Aside (b4 ≠ R) := by
              have := HW4.out
              show b4 ≠ R
              omega
            have HBB4 : Aside (bv3.ownBlock ≠ some b4) := by
              show bv3.ownBlock ≠ some b4
              intro e1
              rcases hb4 with e2 | e2
              · rw [e2] at e1; exact HBB3.out e1
              · have := Own.lt H3.out.own e1
                omega
            have HMP4 : Aside ((vs ++ [Value.iface vt vx]).map cellOf = (done ++ [e]).map (·.sh.cell)) := by
              show _ = _
              rw [List.map_append, List.map_append, HMAP.out]
              congr 1
              rw [List.map_cons, List.map_cons, HH3.out.1.good.2]; rfl
            have HGD4 : Aside (∀ u ∈ vs ++ [Value.iface vt vx], Good u) := by
              show ∀ u ∈ vs ++ [Value.iface vt vx], Good u
              intro u hu
              rcases List.mem_append.1 hu with hu | hu
              · exact HGD.out u hu
              · rw [List.mem_singleton.1 hu]; exact HH3.out.1.good.1
            have HDT : Aside (L.drop (p + e.txt.length) = tl) := drop_add HTL.out
            clear own4 gr4 sh4 GR hb4
            go_wp2_with fail
            rcases HTC.out with ⟨hr, htl⟩ | ⟨hr, htl⟩
            · have HDT2 : Aside (L.drop (p + e.txt.length) = 93 :: rest) := HDT.out.trans htl
              have HE2 : Aside (p + e.txt.length + 1 = E) := by
                have e1 := congrArg List.length HDT2.out
                have e2 := congrArg List.length HD0.out
                have e3 := HE.out
                show p + e.txt.length + 1 = E
                simp only [arrTxt, List.length_drop, List.length_append, List.length_cons, List.length_nil] at e1 e2 e3
                omega
              have HRN : Aside (r = []) := hr
              clear hr htl
              refine (skip0 _ H4.out HDT2.out rfl).mono ?_
              rintro e1 W5 ⟨rfl, h5, s5⟩
              have H5 : Aside (Rd R g L cap (p + e.txt.length) bv3 bs3 W5) := h5
              have S5 : Aside (St R bv3 W4 bv3 W5) := s5
              clear h5 s5
              go_wp2_with fail
              refine (next_yes 93 _ H5.out (drop_get HDT2.out)).mono ?_
              rintro e1 W6 ⟨rfl, h6, s6⟩
              have H6 : Aside (Rd R g L cap (p + e.txt.length + 1) bv3 bs3 W6) := h6
              have S6 : Aside (St R bv3 W4 bv3 W6) := S5.out.trans s6
              clear h6 s6
              go_wp2
              go_ret2
              refine Or.inl ⟨?_, _, rfl, bv3, bs3, ?_, S4.out.trans S6.out, ⟨b4, _, _, vs ++ [Value.iface vt vx], rfl, ?_, ?_, HGD4.out⟩, ?_⟩
              · rw [HELS.out, HRN.out, oks_snoc, HOK.out, HOK3.out]; rfl
              · rw [← HE2.out]; exact H6.out
              · refine O4.out.keep fun k hk => ?_
                have e1 : b4 = k := Option.some.inj hk
                subst e1
                exact S6.out.keep b4 (O4.out.lt hk) HR4.out HBB4.out
              · rw [HMP4.out, HELS.out, HRN.out]
              · intro k hk
                have e1 : b4 = k := Option.some.inj hk
                subst e1
                exact ⟨HR4.out, HBB4.out⟩
            · have HDT2 : Aside (L.drop (p + e.txt.length) = 44 :: (joinE r ++ 93 :: rest)) := HDT.out.trans htl
              have HRN : Aside (r ≠ []) := hr
              clear hr htl
              refine (skip0 _ H4.out HDT2.out rfl).mono ?_
              rintro e1 W5 ⟨rfl, h5, s5⟩
              have H5 : Aside (Rd R g L cap (p + e.txt.length) bv3 bs3 W5) := h5
              have S5 : Aside (St R bv3 W4 bv3 W5) := s5
              clear h5 s5
              go_wp2_with fail
              refine (next_no 93 _ H5.out (by rw [drop_get HDT2.out]; decide)).mono ?_
              rintro e1 W6 ⟨rfl, h6, s6⟩
              have H6 : Aside (Rd R g L cap (p + e.txt.length) bv3 bs3 W6) := h6
              have S6 : Aside (St R bv3 W4 bv3 W6) := S5.out.trans s6
              clear h6 s6
              go_wp2_with fail
              refine (next_yes 44 _ H6.out (drop_get HDT2.out)).mono ?_
              rintro e1 W7 ⟨rfl, h7, s7⟩
              have H7 : Aside (Rd R g L cap (p + e.txt.length + 1) bv3 bs3 W7) := h7
              have S7 : Aside (St R bv3 W4 bv3 W7) := S6.out.trans s7
              have O7 : Aside (OwnA (.slice (some ⟨b4, 0, none⟩) (vs.length + 1) c4) (vs ++ [Value.iface vt vx]) W7) := O4.out.keep fun k hk => by
                have e1 : b4 = k := Option.some.inj hk
                subst e1
                exact S7.out.keep b4 (O4.out.lt hk) HR4.out HBB4.out
              clear h7 s7
              go_wp2
              go_roundg (gk - 1)
              case measure =>
                have := HM.out
                rw [List.length_cons] at this
                omega
              case rel =>
                refine ⟨p + e.txt.length + 1, b4, vs.length + 1, c4, bv3, bs3, done ++ [e], r, vs ++ [Value.iface vt vx], ?_, ?_, ?_, rfl, drop_next HDT2.out, ?_, ?_, O7.out, HMP4.out, HGD4.out, ?_, HW4.out, HR4.out, HBB4.out, H7.out, S4.out.trans S7.out⟩
                · rw [HELS.out]; simp
                · have := HM.out
                  rw [List.length_cons] at this
                  omega
                · have := HM.out
                  rw [List.length_cons] at this
                  have := List.length_pos_iff.2 HRN.out
                  omega
                · simp
                · have := HVD.out
                  simp only [List.length_append, List.length_cons, List.length_nil]
                  omega
                · rw [oks_snoc, HOK.out, HOK3.out]; rfl
        · have S3 : Aside (St R bv W bv3 W3) := S1.out.trans s3
          have HOK3 : Aside (e.ok = false) := hok
          clear hok s3
          go_wp2
          go_ret2
          refine Or.inr ⟨?_, _, _, rfl, _, S3.out⟩
          rw [HELS.out]; exact oks_bad HOK3.out
end Go.Proofs.Qxb6604447aGreatFmt
