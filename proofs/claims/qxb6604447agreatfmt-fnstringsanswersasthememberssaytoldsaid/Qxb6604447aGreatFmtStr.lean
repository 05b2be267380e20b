/-
  The walk of string at a text that zzAppendString wrote.
-/
import Derived.Test.Qxb6604447aGreatFmtStrB
import Derived.Deep.RegionWith
namespace Go.Proofs.Qxb6604447aGreatFmt
set_option maxRecDepth 1000000
open Go.RowKit Go.Lib

theorem take_more (L : List UInt8) {st p : Nat} (k : Nat) (h : st ≤ p) : (L.drop st).take (p + k - st) = (L.drop st).take (p - st) ++ (L.drop p).take k := by
  have e : p + k - st = (p - st) + k := by omega
  rw [e, List.take_add, List.drop_drop]
  congr 3; omega
theorem u8_hex {d : Nat} (h : d < 16) : ((hexd d).toUInt8).toNat = hexd d := by
  have := hexd_lt h
  show (UInt8.ofNat (hexd d)).toNat = _
  rw [UInt8.toNat_ofNat']
  omega
/-- escape at what zzAppendString wrote. -/
theorem escapeW {R g : Nat} {L : List UInt8} {cap pos : Nat} {bv : Value} {bs : List UInt8} (W : World) (h : Rd R g L cap pos bv bs W) (c : UInt8) (rest : List UInt8) (hc : c.toNat < 32 ∨ c.toNat = 34 ∨ c.toNat = 92) (hb : bs.length ≤ 1099511627776)
    (hd : L.drop pos = encC c ++ rest) :
    Calls Tryz.prog 39 #[.pointer (some ⟨R, 0, none⟩)] W fun e W' => e = .returned .nilIface ∧ ∃ bv', Rd R g L cap (pos + (encC c).length) bv' (bs ++ [c]) W' ∧ St R bv W bv' W' := by
  rcases hc with hc | hc | hc
  · rw [encC_ctl hc] at hd ⊢
    exact escape_ctl W h c _ _ rest hc hb (u8_hex (by omega)) (u8_hex (by omega)) hd
  · have e : c = 34 := UInt8.toNat_inj.1 hc
    subst e
    exact escape_34 W h rest hb hd
  · have e : c = 92 := UInt8.toNat_inj.1 hc
    subst e
    exact escape_92 W h rest hb hd
theorem encC_head {c : UInt8} (hc : c.toNat < 32 ∨ c.toNat = 34 ∨ c.toNat = 92) : ∃ l, encC c = 92 :: l := by
  rcases hc with hc | hc
  · exact ⟨_, encC_ctl hc⟩
  · exact ⟨_, encC_esc hc⟩
theorem ret_str {a b : List UInt8} (h : a = b) : Ending.returned (.tuple #[.string ⟨a.toArray⟩, .nilIface]) = .returned (.tuple #[.string ⟨b.toArray⟩, .nilIface]) := by rw [h]
/-- The loop's invariant. -/
def SI (R g : Nat) (L : List UInt8) (cap : Nat) (t rest : List UInt8) (bv : Value) (W : World) (m : Nat) (v : Value) (wx : World) : Prop :=
  ∃ (p st : Nat) (bv2 : Value) (bs2 t1 t2 : List UInt8), t = t1 ++ t2 ∧ m = (encB t2).length ∧ v = .int .i64 (st : Int) ∧ st ≤ p ∧ L.drop p = encB t2 ++ 34 :: rest ∧ bs2 ++ (L.drop st).take (p - st) = t1 ∧ valid t2 = valid t ∧ Rd R g L cap p bv2 bs2 wx ∧ St R bv W bv2 wx

set_option maxHeartbeats 4000000 in
theorem stringW (F : Go.Stop.Interp) {R g : Nat} {L : List UInt8} {cap pos : Nat} {bv : Value} {bs : List UInt8} (W : World) (h : Rd R g L cap pos bv bs W) (t rest : List UInt8) (hd : L.drop pos = enc t ++ rest) (ht : t.length ≤ 1048576)
    (hF : F.answers W.tape) (hT : Lib.Utf8Tabs 1 2 W) (hR3 : 3 ≤ R) (hbv : ∀ k, bv.ownBlock = some k → 3 ≤ k) :
    Calls Tryz.prog 32 #[.pointer (some ⟨R, 0, none⟩)] W (StrPost R g L cap (pos + (enc t).length) t bv W) := by
  obtain ⟨E, hE⟩ : ∃ E, pos + (enc t).length = E := ⟨_, rfl⟩
  rw [hE]
  have HE : Aside (pos + (enc t).length = E) := hE
  clear hE
  have c0 := h.c0
  have c1 := h.c1
  have c2 := h.c2
  have fz := h.fz
  have hlen := h.hlen
  have hcp := h.hcap
  have hR := h.ltR
  have HR : Aside (Rd R g L cap pos bv bs W) := h
  obtain ⟨a0, k0, hv0, own0, ob0⟩ := reset_run h.own
  have hps : pos + 2 ≤ L.length := by
    have := congrArg List.length hd
    simp only [enc, List.length_drop, List.length_append, List.length_cons, List.length_nil] at this
    omega
  have HD : Aside (L.drop pos = enc t ++ rest) := hd
  have HF : Aside (F.answers W.tape) := hF
  have HT : Aside (Lib.Utf8Tabs 1 2 W) := hT
  have HB : Aside (∀ k, bv.ownBlock = some k → 3 ≤ k) := hbv
  have HO : Aside ((Value.slice a0 0 k0).ownBlock = bv.ownBlock) := ob0
  have HW : Aside (Own (.slice a0 0 k0) [] W) := own0
  clear h hd hF hT hbv own0 ob0
  go_enter Tryz.func32, Tryz.ntmps32
  go_wp2_with fail
  have R0 : Aside (Rd R g L cap (pos + 1) (.slice a0 0 k0) [] ((W.setCell ⟨R, 1, none⟩ (.int .i64 ((pos + 1 : Nat) : Int))).setCell ⟨R, 2, none⟩ (.slice a0 0 k0))) :=
    (HR.out.move (pos + 1) (by omega)).rebuf ⟨rfl, rfl, rfl, Nat.le_refl _, fun _ _ _ => rfl, fun k hk => Or.inl (by rw [← HO.out]; exact hk)⟩ (HW.out.keep fun k hk => Below.heap_setCell _ _ _ _ (fun e => HR.out.neR (by rw [← HO.out, hk]; exact congrArg some e)))
  have S0 : Aside (St R bv W (.slice a0 0 k0) ((W.setCell ⟨R, 1, none⟩ (.int .i64 ((pos + 1 : Nat) : Int))).setCell ⟨R, 2, none⟩ (.slice a0 0 k0))) :=
    (St.trans ⟨rfl, rfl, rfl, Nat.le_refl _, fun _ _ _ _ => rfl, fun k hk => Or.inl (by rw [← HO.out]; exact hk)⟩ ((St.refl R (.slice a0 0 k0) W).setR 1 _)).setR 2 _
  clear hv0 c0 c1 c2 fz
  go_loopg [4] (encB t).length (SI R g L cap t rest bv W)
  case atStart =>
    refine ⟨pos + 1, pos + 1, _, [], [], t, rfl, rfl, by go_num, Nat.le_refl _, ?_, by simp, rfl, R0.out, S0.out⟩
    have := HD.out
    rw [← List.drop_drop, this, enc]
    simp
  case round =>
    obtain ⟨p, st, bv2, bs2, t1, t2, ht12, hm, rfl, hst, hdr, hb2, hval, h1, s1⟩ := hrel
    obtain ⟨a2, k2, rfl⟩ := Own.sl h1.own
    have c0 := h1.c0
    have c1 := h1.c1
    have c2 := h1.c2
    have f1 := h1.fz 1
    have f2 := h1.fz 2
    have hpl : p + 1 ≤ L.length := by
      have := congrArg List.length hdr
      simp only [List.length_drop, List.length_append, List.length_cons] at this
      omega
    have hp' : (p : Int) < (L.length : Int) := by omega
    have hR1 := h1.ltR
    have hbl : bs2.length + (p - st) = t1.length := by
      rw [← hb2, List.length_append, List.length_take, List.length_drop]; omega
    have htl : t1.length + t2.length = t.length := by rw [ht12, List.length_append]
    have hsl : ∀ wx, (Instr.slice 25 (.slice (some ⟨g, 0, none⟩) L.length cap) (some (.int .i64 (st : Int))) (some (.int .i64 (p : Int))) none).run Tryz.prog wx = .ok (.slice (some ⟨g, st, none⟩) (p - st) (cap - st)) wx := sl_mid g L.length cap st p hst (by omega) (by omega)
    have hsf : ∀ wx, (Instr.slice 25 (.slice (some ⟨g, 0, none⟩) L.length cap) (some (.int .i64 (p : Int))) none none).run Tryz.prog wx = .ok (.slice (some ⟨g, p, none⟩) (L.length - p) (cap - p)) wx := sl_from g L.length cap p (by omega) (by omega)
    have H1 : Aside (Rd R g L cap p (.slice a2 bs2.length k2) bs2 wr) := h1
    have S1 : Aside (St R bv W (.slice a2 bs2.length k2) wr) := s1
    have HM : Aside (gk = (encB t2).length) := hm
    have HT12 : Aside (t = t1 ++ t2) := ht12
    have HDR : Aside (L.drop p = encB t2 ++ 34 :: rest) := hdr
    have HB2 : Aside (bs2 ++ (L.drop st).take (p - st) = t1) := hb2
    have HV : Aside (valid t2 = valid t) := hval
    have SLN : Aside (((L.drop st).take (p - st)).length = p - st) := by
      show _ = _
      rw [List.length_take, List.length_drop]; omega
    have hdr0 := hdr
    clear s1 hm ht12 hb2 hval hdr h1
    cases t2 with
    | nil =>
      have x0 : wr.cell? ⟨g, p, none⟩ = some (.int .u8 34) := head_cell (x := 34) (l := rest) H1.out.dat hdr0
      clear hdr0
      have HE2 : Aside (p + 1 = E) := by
        have e1 := congrArg List.length HDR.out
        have e2 := congrArg List.length HD.out
        have e3 := HE.out
        show p + 1 = E
        simp only [encB, List.nil_append, List.length_drop, List.length_append, List.length_cons] at e1 e2
        omega
      have hte : t = bs2 ++ (L.drop st).take (p - st) := by rw [HT12.out, ← HB2.out, List.append_nil]
      have HTE : Aside (t = bs2 ++ (L.drop st).take (p - st)) := hte
      clear hte
      by_cases hz : bs2.length = 0
      · have hz' : ((bs2.length : Int) == 0) = true := by rw [hz]; rfl
        have hcv : ∀ n v, (convert 25 9 (.slice (some ⟨g, st, none⟩) (p - st) (cap - st))).run Tryz.prog ((wr.drewN n).setCell ⟨R, 1, none⟩ v) = .ok (.string ⟨((L.drop st).take (p - st)).toArray⟩) ((wr.drewN n).setCell ⟨R, 1, none⟩ v) := fun n v =>
          conv_run _ _ SLN.out g st _ _ (Dat.part (H1.out.dat.keep (W' := (wr.drewN n).setCell ⟨R, 1, none⟩ v) (Below.heap_setCell _ _ _ _ (Ne.symm H1.out.neRG))) st (p - st))
        have HZ : Aside (bs2 = []) := List.eq_nil_of_length_eq_zero hz
        clear hz
        go_wp2_with fail
        go_quiet (fail)
        go_wp2_with fail
        go_quiet (fail)
        go_wp2_with fail
        go_quiet (fail)
        go_wp2_with fail
        go_ret2
        refine Or.inl ⟨HV.out.symm, ?_, _, bs2, ?_, (S1.out.drewN _).setR _ _⟩
        · exact ret_str (by have := HTE.out; rw [HZ.out, List.nil_append] at this; exact this.symm)
        · rw [← HE2.out]; exact (H1.out.drewN _).move (p + 1) (by omega)
      · have hz' : ((bs2.length : Int) == 0) = false := by rw [beq_eq_false_iff_ne]; omega
        go_wp2_with fail
        go_quiet (fail)
        go_wp2_with fail
        go_quiet (fail)
        go_wp2_with fail
        go_quiet (fail)
        go_wp2_with (at_builtin; refine wpl_app2 _ rfl _ _ rfl (.slice a2 bs2.length k2) bs2 rfl ?xo ⟨g, st, none⟩ (p - st) (cap - st) ((L.drop st).take (p - st)) rfl SLN.out ?xc ?xb ?_)
        case xo => exact ((H1.out.drewN _).move (p + 1) (by omega)).own
        case xc => exact ((H1.out.drewN _).move (p + 1) (by omega)).dat.news _ _
        case xb => omega
        intro v1 W1 own1 old1 gr1 sh1
        obtain ⟨g3, cap3, rfl⟩ := sh1.get (by omega)
        have R3 : Aside (Rd R g L cap (p + 1) (.slice a2 bs2.length k2) bs2 W1) := ((H1.out.drewN _).move (p + 1) (by omega)).grown gr1 old1
        have S3 : Aside (St R bv W (.slice a2 bs2.length k2) W1) := ((S1.out.drewN _).setR _ _).trans (gr1.toSt2 R)
        have hcv : (convert 25 9 (.slice (some ⟨g3, 0, none⟩) t1.length cap3)).run Tryz.prog W1 = .ok (.string ⟨(bs2 ++ (L.drop st).take (p - st)).toArray⟩) W1 := conv_run _ _ own1.cells.1 g3 0 _ _ own1.cells.2
        clear own1 old1 gr1 sh1
        go_wp2_with fail
        go_ret2
        refine Or.inl ⟨HV.out.symm, ?_, _, bs2, ?_, S3.out⟩
        · exact ret_str HTE.out.symm
        · rw [← HE2.out]; exact R3.out
    | cons c t2 =>
      have hvc : valid (c :: t2) = valid t := HV.out
      have HV2 : Aside (c.toNat < 128 → valid t2 = valid t) := fun hc => by rw [← hvc, valid_ascii hc]
      clear hvc
      by_cases h128 : 128 ≤ c.toNat
      · have hen : encB (c :: t2) = c :: encB t2 := by rw [encB, encC_high h128]; rfl
        have HEN : Aside (encB (c :: t2) = c :: encB t2) := hen
        have hdr1 := hdr0
        rw [hen, List.cons_append] at hdr1
        have x0 : wr.cell? ⟨g, p, none⟩ = some (.int .u8 (c.toNat : Int)) := head_cell H1.out.dat hdr1
        obtain ⟨n, hn⟩ : ∃ n : Int, (c.toNat : Int) = n := ⟨_, rfl⟩
        rw [hn] at x0
        have e34 : (n == 34) = false := by rw [beq_eq_false_iff_ne]; omega
        have e92 : (n == 92) = false := by rw [beq_eq_false_iff_ne]; omega
        have e32 : ¬ n < 32 := by omega
        have e128 : ¬ n < 128 := by omega
        have hdc : dec (L.drop p) = dec (c :: t2) := by rw [hdr0, dec_enc c (by omega)]
        obtain ⟨rn, hrn⟩ : ∃ rn, (dec (c :: t2)).1 = rn := ⟨_, rfl⟩
        obtain ⟨sz, hsz⟩ : ∃ sz, (dec (c :: t2)).2 = sz := ⟨_, rfl⟩
        have hdec : ∀ m, Calls Tryz.prog 35 #[.slice (some ⟨g, p, none⟩) (L.length - p) (cap - p)] (wr.drewN m) fun e W' => e = .returned (.tuple #[.int .i32 (rn : Int), .int .i64 (sz : Int)]) ∧ Below wr.heap.size wr W' := by
          intro m
          have tb : Lib.Utf8Tabs 1 2 wr := tabs_keep HT.out (S1.out.low (n := 3) (by omega) hR3 HB.out 1 (by omega)) (S1.out.low (n := 3) (by omega) hR3 HB.out 2 (by omega))
          have k := decodeRuneW (L.drop p) g p (cap - p) (wr.drewN m) (by rw [hdr1]; simp) tb (fun j x hx => (H1.out.drewN m).dat.cell (by rwa [List.getElem?_drop] at hx))
          rw [hdc, hrn, hsz, List.length_drop] at k
          exact k.mono fun e W' h => ⟨h.1, h.2.os, h.2.tape, h.2.output, h.2.size, h.2.block⟩
        have HD5 : Aside (c.toNat < 128 → False) := fun h => by omega
        have HRN : Aside ((dec (c :: t2)).1 = rn) := hrn
        have HSZ : Aside ((dec (c :: t2)).2 = sz) := hsz
        clear hen hdr0 hdr1 hn hdc hrn hsz
        by_cases h1 : sz = 1
        · have hrr : rn = 65533 := by rw [← HRN.out]; exact dec_err (by omega) (HSZ.out.trans h1)
          subst h1
          subst hrr
          clear h128
          go_wp2_with fail
          go_quiet (fail)
          go_wp2_with fail
          go_quiet (fail)
          go_wp2_with fail
          go_region_with (go_at_call 35; refine (hdec _).mono ?_; rintro e W3 ⟨rfl, b3⟩)
          all_goals
            have R3 : Aside (Rd R g L cap p (.slice a2 bs2.length k2) bs2 W3) := H1.out.below b3
            have S3 : Aside (St R bv W (.slice a2 bs2.length k2) W3) := S1.out.trans (Below.toSt b3 R _)
            have k1 := R3.out.c1
            have HF3 : Aside (F.answers W3.tape) := by show F.answers W3.tape; rw [S3.out.tape]; exact HF.out
            clear b3
            go_wp2_with fail
            refine (errorf_utf F (p : Int) W3.heap.size _ (by exact HF3.out) (by exact cell_one_new W3 _ 20 0 _ rfl)).mono ?_
            rintro e W4 ⟨⟨x, rfl⟩, b4⟩
            have S4 : Aside (St R bv W (.slice a2 bs2.length k2) W4) := (S3.out.alloc _).trans (Below.toSt b4 R _)
            clear b4
            go_wp2
            go_ret2
            refine Or.inr ⟨?_, ⟨x, rfl⟩, _, S4.out⟩
            rw [← HV.out]
            exact valid_bad (fun h => HD5.out h) HSZ.out
        · have HS1 : Aside (¬ sz = 1) := h1
          have hvr : valid ((c :: t2).drop sz) = valid t := by rw [← HV.out, valid_rune (by omega) (by rw [HSZ.out]; exact h1), HSZ.out]
          obtain ⟨hle, htk⟩ := dec_take c (by omega) t2 (by rw [HSZ.out]; exact h1)
          rw [HSZ.out] at hle htk
          have hsz1 : 1 ≤ sz := by rw [← HSZ.out]; exact dec_ge1 _
          have hen2 : encB (c :: t2) = (c :: t2).take sz ++ encB ((c :: t2).drop sz) := by
            rw [← List.take_append_drop sz (c :: t2), encB_append, encB_high _ htk, List.take_append_drop]
          have HEN2 : Aside (encB (c :: t2) = (c :: t2).take sz ++ encB ((c :: t2).drop sz)) := hen2
          have HVR : Aside (valid ((c :: t2).drop sz) = valid t) := hvr
          have HTK : Aside (((c :: t2).take sz).length = sz) := by show _ = _; rw [List.length_take]; omega
          have hps2 : p + sz + 1 ≤ L.length := by
            have := congrArg List.length HDR.out
            rw [hen2] at this
            have := HTK.out
            simp only [List.length_drop, List.length_append, List.length_cons] at *
            omega
          have hszn : ((sz : Int) == 1) = false := by rw [beq_eq_false_iff_ne]; omega
          clear h128 hvr hle htk hen2
          obtain ⟨bb, hbb⟩ : ∃ bb, ((rn : Int) == 65533) = bb := ⟨_, rfl⟩
          go_wp2_with fail
          go_quiet (fail)
          go_wp2_with fail
          go_quiet (fail)
          go_wp2_with fail
          go_region_with (go_at_call 35; refine (hdec _).mono ?_; rintro e W3 ⟨rfl, b3⟩)
          all_goals
            have R3 : Aside (Rd R g L cap p (.slice a2 bs2.length k2) bs2 W3) := H1.out.below b3
            have S3 : Aside (St R bv W (.slice a2 bs2.length k2) W3) := S1.out.trans (Below.toSt b3 R _)
            have k1 := R3.out.c1
            have kf1 := R3.out.fz 1
            clear b3
            cases bb
            all_goals
              go_wp2
              go_roundg (gk - sz)
              case measure =>
                have := HM.out
                rw [HEN2.out, List.length_append, HTK.out] at this
                omega
              case rel =>
                refine ⟨p + sz, st, _, bs2, t1 ++ (c :: t2).take sz, (c :: t2).drop sz, ?_, ?_, rfl, by omega, ?_, ?_, HVR.out, R3.out.move (p + sz) (by omega), S3.out.setR _ _⟩
                · rw [List.append_assoc, List.take_append_drop]; exact HT12.out
                · have := HM.out
                  rw [HEN2.out, List.length_append, HTK.out] at this
                  omega
                · rw [← List.drop_drop, HDR.out, HEN2.out, List.append_assoc, List.drop_left' HTK.out]
                · rw [take_more L sz hst, ← List.append_assoc, HB2.out, HDR.out, HEN2.out, List.append_assoc, List.take_left' HTK.out]
      · by_cases hpl2 : 32 ≤ c.toNat ∧ c.toNat ≠ 34 ∧ c.toNat ≠ 92
        · have hen : encB (c :: t2) = c :: encB t2 := by rw [encB, encC_plain hpl2.1 hpl2.2.1 hpl2.2.2]; rfl
          have HEN : Aside (encB (c :: t2) = c :: encB t2) := hen
          rw [hen, List.cons_append] at hdr0
          have HDS : Aside (L.drop p = c :: (encB t2 ++ 34 :: rest)) := hdr0
          have x0 : wr.cell? ⟨g, p, none⟩ = some (.int .u8 (c.toNat : Int)) := head_cell H1.out.dat hdr0
          obtain ⟨n, hn⟩ : ∃ n : Int, (c.toNat : Int) = n := ⟨_, rfl⟩
          have HC : Aside (c.toNat < 128) := by show c.toNat < 128; omega
          rw [hn] at x0
          have e34 : (n == 34) = false := by rw [beq_eq_false_iff_ne]; omega
          have e92 : (n == 92) = false := by rw [beq_eq_false_iff_ne]; omega
          have e32 : ¬ n < 32 := by omega
          have e128 : n < 128 := by omega
          clear hen hdr0 hn hpl2 h128
          go_wp2_with fail
          go_quiet (fail)
          go_wp2_with fail
          go_quiet (fail)
          go_wp2
          go_roundg (gk - 1)
          case measure =>
            have := HM.out
            rw [HEN.out, List.length_cons] at this
            omega
          case rel =>
            refine ⟨p + 1, st, _, bs2, t1 ++ [c], t2, ?_, ?_, rfl, by omega, ?_, ?_, HV2.out HC.out, (H1.out.drewN _).move (p + 1) (by omega), (S1.out.drewN _).setR _ _⟩
            · rw [HT12.out]; simp
            · have := HM.out
              rw [HEN.out, List.length_cons] at this
              omega
            · rw [← List.drop_drop, HDS.out]; rfl
            · rw [take_more L 1 hst, ← List.append_assoc, HB2.out, HDS.out]; rfl
        · have hcc : c.toNat < 32 ∨ c.toNat = 34 ∨ c.toNat = 92 := by omega
          obtain ⟨l2, hl2⟩ := encC_head hcc
          have hen : encB (c :: t2) = encC c ++ encB t2 := rfl
          rw [hen, List.append_assoc] at hdr0
          have HDS : Aside (L.drop p = encC c ++ (encB t2 ++ 34 :: rest)) := hdr0
          have x0 : wr.cell? ⟨g, p, none⟩ = some (.int .u8 92) := head_cell (x := 92) H1.out.dat (by rw [hdr0, hl2]; rfl)
          have hlc : 1 ≤ (encC c).length := by rw [hl2]; simp
          have HLC : Aside (1 ≤ (encC c).length) := hlc
          have HCC : Aside (c.toNat < 32 ∨ c.toNat = 34 ∨ c.toNat = 92) := hcc
          have HC : Aside (c.toNat < 128) := by show c.toNat < 128; omega
          have hbs : bs2.length + (p - st) ≤ 1048576 := by omega
          clear hen hdr0 hpl2 h128 hcc hl2 hlc
          go_wp2_with fail
          go_quiet (fail)
          go_wp2_with fail
          go_quiet (fail)
          go_wp2_with fail
          go_region_law (
            (refine step_app _ rfl (.tmp 125) (.tmp 135) rfl (.slice a2 bs2.length k2) bs2 ?_ ?_ ⟨g, st, none⟩ (p - st) (cap - st) ((L.drop st).take (p - st)) ?_ SLN.out ?_ ?_ ?_
             · rfl
             · exact (H1.out.drewN _).own
             · rfl
             · exact (H1.out.drewN _).dat.news _ _
             · omega
             intro v' W' own' gr' sh'
             have O2 : Aside (Own v' t1 W') := by rw [← HB2.out]; exact own'
             obtain ⟨a3, k3, rfl⟩ := Own.sl O2.out
             have G2 : Aside (Gr (.slice a2 bs2.length k2) wr (.slice a3 t1.length k3) W') := Gr.trans (by exact Gr.same rfl rfl rfl rfl) gr'
             have k2' : W'.cell? ⟨R, 2, none⟩ = some (.slice a2 bs2.length k2) := by rw [World.cell?_of_block (w := wr) (a := ⟨R, 2, none⟩) (G2.out.keep R hR1 H1.out.neR)]; exact c2
             have kf : ∀ o, W'.frozen? ⟨R, o, none⟩ = false := fun o => by rw [World.frozen?_of_block (w := wr) (a := ⟨R, o, none⟩) (G2.out.keep R hR1 H1.out.neR)]; exact H1.out.fz o
             clear own' gr' sh'))
          all_goals
            have h2 : Aside (Rd R g L cap p (.slice a3 t1.length k3) t1 (W'.setCell ⟨R, 2, none⟩ (.slice a3 t1.length k3))) := H1.out.rebuf G2.out O2.out
            have S2 : Aside (St R bv W (.slice a3 t1.length k3) (W'.setCell ⟨R, 2, none⟩ (.slice a3 t1.length k3))) := S1.out.trans ((G2.out.toSt R).setR _ _)
            clear O2 G2 k2' kf
            go_wp2_with (go_at_call 39; refine (escapeW _ h2.out c _ HCC.out (by omega) HDS.out).mono ?_)
            rintro e W3 ⟨rfl, bv3, R3, S3⟩
            have H3 : Aside (Rd R g L cap (p + (encC c).length) bv3 (t1 ++ [c]) W3) := R3
            have T3 : Aside (St R (.slice a3 t1.length k3) (W'.setCell ⟨R, 2, none⟩ (.slice a3 t1.length k3)) bv3 W3) := S3
            have k1 := R3.c1
            clear R3 S3
            go_wp2
            go_roundg (gk - (encC c).length)
            case measure =>
              have := HM.out
              have := HLC.out
              simp only [encB, List.length_append] at *
              omega
            case rel =>
              refine ⟨p + (encC c).length, p + (encC c).length, bv3, t1 ++ [c], t1 ++ [c], t2, ?_, ?_, by go_num, Nat.le_refl _, ?_, by simp, HV2.out HC.out, H3.out, S2.out.trans T3.out⟩
              · rw [HT12.out]; simp
              · have := HM.out
                simp only [encB, List.length_append] at this
                omega
              · rw [← List.drop_drop, HDS.out, List.drop_left]
end Go.Proofs.Qxb6604447aGreatFmt
