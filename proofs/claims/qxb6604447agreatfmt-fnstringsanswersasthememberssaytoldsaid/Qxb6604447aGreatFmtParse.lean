/-
  The walk of Parse.
-/
import Derived.Test.Qxb6604447aGreatFmtVal2
import Derived.Test.Qxb6604447aGreatFmtTa
namespace Go.Proofs.Qxb6604447aGreatFmt
set_option maxRecDepth 1000000
open Go.RowKit Go.Lib

/-- What a call of Parse leaves. -/
def PPost (ok : Bool) (ms : List Mb) (W : World) (e : Ending) (W' : World) : Prop :=
  (ok = true ∧ ∃ M kvs, e = .returned (.tuple #[.map (some M), .nilIface]) ∧ MapAt M kvs W' ∧ Ent (fun sh v => Kept sh v W') ms kvs ∧ Below W.heap.size W W') ∨
  (ok = false ∧ ∃ x, e = .returned (.tuple #[.map none, .iface 62 x]) ∧ Below W.heap.size W W')
theorem St.toBelow {R : Nat} {bv bv' : Value} {W0 W W' : World} (h : Below W0.heap.size W0 W) (s : St R bv W bv' W') (hR : W0.heap.size ≤ R) (hb : ∀ k, bv.ownBlock = some k → W0.heap.size ≤ k) : Below W0.heap.size W0 W' :=
  ⟨s.os.trans h.os, s.tape.trans h.tape, s.output.trans h.output, Nat.le_trans h.size s.size, fun k hk => (s.keep k (Nat.lt_of_lt_of_le hk h.size) (by omega) (fun e => by have := hb k e; omega)).trans (h.block k hk)⟩
theorem Own.dat {g n cap : Nat} {L : List UInt8} {W : World} (h : Own (.slice (some ⟨g, 0, none⟩) n cap) L W) : Dat g L W ∧ n = L.length ∧ L.length ≤ cap ∧ cap ≤ maxLen := by
  rcases h with ⟨_, ⟨h0, _⟩ | ⟨g', cap', cur, hv, _, hg, hn, hm, hs, ht⟩⟩
  · cases h0
  · cases hv
    exact ⟨⟨cur, cap, hg, by omega, hn, by simpa using ht⟩, rfl, hn, hm⟩

theorem MapAt.apart {R g : Nat} {L : List UInt8} {cap pos : Nat} {bv : Value} {bs : List UInt8} {W : World} {M : Nat} {kvs : List (List UInt8 × Value)} (h : MapAt M kvs W) (r : Rd R g L cap pos bv bs W) : M ≠ R ∧ bv.ownBlock ≠ some M := by
  obtain ⟨es, clock, h1, _⟩ := h
  refine ⟨fun e => ?_, fun e => ?_⟩
  · subst e
    rw [r.blk] at h1; cases h1
  · rcases r.own.2 with ⟨rfl, _⟩ | ⟨g', c', cur, rfl, _, hg, _⟩
    · cases e
    · have e1 : g' = M := Option.some.inj e
      subst e1
      rw [hg] at h1; cases h1
theorem skipE {R g : Nat} {L : List UInt8} {cap pos : Nat} {bv : Value} {bs : List UInt8} (W : World) (h : Rd R g L cap pos bv bs W) {sp : List UInt8} (hsp : sp = [] ∨ sp = [10]) (hd : L.drop pos = sp) :
    Calls Tryz.prog 21 #[.pointer (some ⟨R, 0, none⟩)] W fun e W' => e = .returned (.tuple #[]) ∧ Rd R g L cap (pos + sp.length) bv bs W' ∧ St R bv W bv W' := by
  have k := skipSpace W h
  rw [hd] at k
  rcases hsp with rfl | rfl
  · exact k
  · exact k

set_option maxHeartbeats 2000000 in
theorem parseW (F : Go.Stop.Interp) (ms : List Mb) (hv : ∀ m ∈ ms, VC F 1 m.el.txt m.el.ok m.el.sh) (hn : ∀ m ∈ ms, m.name.length ≤ 1048576) (sp1 sp2 : List UInt8) (h1 : sp1 = [] ∨ sp1 = [32]) (h2 : sp2 = [] ∨ sp2 = [10])
    (g n cap : Nat) (W : World) (L : List UInt8) (hL : L = sp1 ++ (objTxt ms ++ sp2)) (hown : Own (.slice (some ⟨g, 0, none⟩) n cap) L W) (hlen : L.length < 1099511627776) (hF : F.answers W.tape) (hT : Tb W) :
    Calls Tryz.prog 10 #[.slice (some ⟨g, 0, none⟩) n cap] W (PPost (okM [] ms) ms W) := by
  obtain ⟨hdat, rfl, hcp, hmx⟩ := hown.dat
  have HDA : Aside (Dat g L W) := hdat
  have hg := hdat.lt
  have h3 : 9 ≤ W.heap.size := hT.nine
  have HL : Aside (L = sp1 ++ (objTxt ms ++ sp2)) := hL
  have HV : Aside (∀ m ∈ ms, VC F 1 m.el.txt m.el.ok m.el.sh) := hv
  have HN : Aside (∀ m ∈ ms, m.name.length ≤ 1048576) := hn
  have HS1 : Aside (sp1 = [] ∨ sp1 = [32]) := h1
  have HS2 : Aside (sp2 = [] ∨ sp2 = [10]) := h2
  have HF : Aside (F.answers W.tape) := hF
  have HT : Aside (Tb W) := hT
  clear hdat hL hv hn h1 h2 hF hT hown
  go_enter Tryz.func10, Tryz.ntmps10
  go_wp2_with fail
  have R0 : Aside (Rd W.heap.size g L cap 0 (.slice none 0 0) [] (W.alloc (.cells #[.slice (some ⟨g, 0, none⟩) L.length cap, .int .i64 0, .slice none 0 0] 48))) := {
    blk := (MapKept.heap_alloc W _).1
    dat := HDA.out.keep (Below.heap_alloc _ _ _ hg)
    own := own_nil _
    neR := fun e => by cases e
    neG := fun e => by cases e
    neRG := by omega
    hpos := Nat.zero_le _
    hcap := hcp
    hmax := hmx
    hlen := hlen }
  have B0 : Aside (Below W.heap.size W (W.alloc (.cells #[.slice (some ⟨g, 0, none⟩) L.length cap, .int .i64 0, .slice none 0 0] 48))) := (Below.refl _ _).alloc (Nat.le_refl _) _
  have HB0 : Aside (Base F W.heap.size (.slice none 0 0) (W.alloc (.cells #[.slice (some ⟨g, 0, none⟩) L.length cap, .int .i64 0, .slice none 0 0] 48))) :=
    ⟨HF.out, HT.out.keep (fun k hk => Below.heap_alloc _ _ _ (by omega)), h3, fun k e => by cases e⟩
  have HDR0 : Aside (L.drop 0 = sp1 ++ 123 :: (joinM ms ++ [125] ++ sp2)) := HL.out
  have HDR1 : Aside (L.drop (0 + sp1.length) = objTxt ms ++ sp2) := drop_add (a := sp1) (show L.drop 0 = sp1 ++ (objTxt ms ++ sp2) from HL.out)
  have HDR2 : Aside (L.drop (0 + sp1.length + (objTxt ms).length) = sp2) := drop_add HDR1.out
  have HLN : Aside (0 + sp1.length + (objTxt ms).length + sp2.length = L.length) := by
    have := congrArg List.length HL.out
    rw [List.length_append, List.length_append] at this
    show 0 + sp1.length + (objTxt ms).length + sp2.length = L.length
    omega
  obtain ⟨W0, hW0⟩ : ∃ W0, W.alloc (.cells #[.slice (some ⟨g, 0, none⟩) L.length cap, .int .i64 0, .slice none 0 0] 48) = W0 := ⟨_, rfl⟩
  rw [hW0] at R0 B0 HB0
  rw [hW0]
  clear hW0
  refine (skipS _ R0.out HS1.out HDR0.out rfl).mono ?_
  rintro e W1 ⟨rfl, h1, s1⟩
  have H1 : Aside (Rd W.heap.size g L cap (0 + sp1.length) (.slice none 0 0) [] W1) := h1
  have S1 : Aside (St W.heap.size (.slice none 0 0) W0 (.slice none 0 0) W1) := s1
  clear h1 s1
  go_wp2_with fail
  refine (at_yes 123 _ H1.out (drop_get (show L.drop (0 + sp1.length) = 123 :: (joinM ms ++ [125] ++ sp2) from HDR1.out))).mono ?_
  rintro e W2 ⟨rfl, h2, s2⟩
  have H2 : Aside (Rd W.heap.size g L cap (0 + sp1.length) (.slice none 0 0) [] W2) := h2
  have S2 : Aside (St W.heap.size (.slice none 0 0) W0 (.slice none 0 0) W2) := S1.out.trans s2
  clear h2 s2
  go_wp2_with fail
  refine (valObj F 0 ms (by omega) HV.out HN.out _ g L cap _ _ _ _ sp2 H2.out HDR1.out (HB0.out.step R0.out.ltR S2.out)).mono ?_
  rintro e W3 (⟨hv, M, kvs, rfl, bv3, bs3, h3', s3, m3, k3⟩ | ⟨hv, v, x, rfl, bv3, s3⟩)
  · have H3 : Aside (Rd W.heap.size g L cap (0 + sp1.length + (objTxt ms).length) bv3 bs3 W3) := h3'
    have S3 : Aside (St W.heap.size (.slice none 0 0) W0 bv3 W3) := S2.out.trans s3
    have M3 : Aside (MapAt M kvs W3) := m3
    have K3 : Aside (Ent (fun sh v => Holds sh v W.heap.size bv3 W3) ms kvs) := k3
    have HOK : Aside (okM [] ms = true) := hv
    clear h3' s3 m3 k3 hv
    go_wp2_with fail
    refine (skipE _ H3.out HS2.out HDR2.out).mono ?_
    rintro e W4 ⟨rfl, h4, s4⟩
    rw [HLN.out] at h4
    have c1 := h4.c1
    have S4 : Aside (St W.heap.size (.slice none 0 0) W0 bv3 W4) := S3.out.trans s4
    have M4 : Aside (MapAt M kvs W4) := (M3.out.step s4 (M3.out.apart H3.out).1 (M3.out.apart H3.out).2).1
    have K4 : Aside (Ent (fun sh v => Kept sh v W4) ms kvs) := K3.out.mono fun _ _ k => (k.step s4).1
    clear h4 s4
    have hta := ta27
    go_wp2
    go_ret2
    exact Or.inl ⟨HOK.out, _, _, rfl, M4.out, K4.out, St.toBelow B0.out S4.out (Nat.le_refl _) (fun k e => by cases e)⟩
  · have S3 : Aside (St W.heap.size (.slice none 0 0) W0 bv3 W3) := S2.out.trans s3
    have HOK : Aside (okM [] ms = false) := hv
    clear hv s3
    go_wp2
    go_ret2
    exact Or.inr ⟨HOK.out, _, rfl, St.toBelow B0.out S3.out (Nat.le_refl _) (fun k e => by cases e)⟩
end Go.Proofs.Qxb6604447aGreatFmt
