/-
  The walk of readFloat at the two numbers that the laws write.
-/
import Derived.Test.Qxb6604447aGreatFmtProg
import Derived.WalkKit
import Derived.WalkSpells
import Derived.WalkMore
import Derived.WalkLawsBesides
import Derived.Deep.LoopGhost
import Derived.OwnWalk
import Derived.Laws.Externs
namespace Go.Proofs.Qxb6604447aGreatFmt
set_option maxRecDepth 1000000
open Go.RowKit Go.Lib

theorem results_tmp7 {fn : Func} {a b c d e f g : Tmp} (h : fn.results = #[.tmp a, .tmp b, .tmp c, .tmp d, .tmp e, .tmp f, .tmp g]) (tmps : Array Value) (P : Program) (w : World) :
    (results fn tmps).run P w = .ok (.tuple #[tmps.getD a undef, tmps.getD b undef, tmps.getD c undef, tmps.getD d undef, tmps.getD e undef, tmps.getD f undef, tmps.getD g undef]) w := by
  simp [results, h]

set_option maxHeartbeats 2000000 in
theorem special0 (s : ByteArray) (hs : s.size = 1) (h0 : ∀ h : 0 < s.size, ((s[0]'h).toNat : Int) = 48) (W : World) : Calls Tryz.prog 65 #[.string s] W fun e W' => e = .returned (.tuple #[.float .f64 0, .int .i64 0, .bool false]) ∧ W' = W := by
  go_enter Tryz.func65, Tryz.ntmps65
  go_wp2
  go_ret3
  exact ⟨rfl, rfl⟩
set_option maxHeartbeats 2000000 in
theorem readFloat0 (s : ByteArray) (hs : s.size = 1) (h0 : ∀ h : 0 < s.size, ((s[0]'h).toNat : Int) = 48) (W : World) : Calls Tryz.prog 66 #[.string s] W fun e W' => e = .returned (.tuple #[.int .u64 0, .int .i64 0, .bool false, .bool false, .bool false, .int .i64 1, .bool true]) ∧ W' = W := by
  go_enter Tryz.func66, Tryz.ntmps66
  go_wp2_with fail
  go_step3
  go_wp2_with fail
  go_step3
  go_wp2_with fail
  go_loopg [2, 5, 7, 9, 13, 14, 15, 16, 17] 1 (fun m s2 s5 s7 s9 s13 s14 s15 s16 s17 wx => W = wx ∧ s2 = .int .u64 0 ∧ s5 = .bool false ∧ s9 = .bool false ∧ s13 = .bool false ∧ s15 = .int .i64 0 ∧ s16 = .int .i64 0 ∧ ((m = 1 ∧ s7 = .int .i64 0 ∧ s14 = .bool false ∧ s17 = .int .i64 0) ∨ (m = 0 ∧ s7 = .int .i64 1 ∧ s14 = .bool true ∧ s17 = .int .i64 (-1))))
  case atStart => exact ⟨rfl, rfl, rfl, rfl, rfl, rfl, rfl, Or.inl ⟨rfl, rfl, rfl, rfl⟩⟩
  case round =>
    obtain ⟨rfl, rfl, rfl, rfl, rfl, rfl, rfl, h⟩ := hrel
    rcases h with ⟨rfl, rfl, rfl, rfl⟩ | ⟨rfl, rfl, rfl, rfl⟩
    · go_wp2_with fail
      go_roundg 0
      case measure => omega
      case rel => exact ⟨rfl, rfl, rfl, rfl, rfl, rfl, rfl, Or.inr ⟨rfl, rfl, rfl, rfl⟩⟩
    · go_wp2_with fail
      rw [Exit.noGoto_ret]
      refine bodyPost_ret (results_tmp7 rfl _ _ _) rfl ?_
      exact ⟨rfl, rfl⟩

set_option maxHeartbeats 2000000 in
theorem lowerE (W : World) : Calls Tryz.prog 82 #[.int .u8 101] W fun e W' => e = .returned (.int .u8 101) ∧ W' = W := by
  go_enter Tryz.func82, Tryz.ntmps82
  go_wp2
  go_ret
  exact ⟨rfl, rfl⟩
set_option maxHeartbeats 4000000 in
theorem readFloat12 (s : ByteArray) (hs : s.size = 7) (h0 : ∀ h : 0 < s.size, ((s[0]'h).toNat : Int) = 45) (h1 : ∀ h : 1 < s.size, ((s[1]'h).toNat : Int) = 49) (h2 : ∀ h : 2 < s.size, ((s[2]'h).toNat : Int) = 50) (h3 : ∀ h : 3 < s.size, ((s[3]'h).toNat : Int) = 46) (h4 : ∀ h : 4 < s.size, ((s[4]'h).toNat : Int) = 53) (h5 : ∀ h : 5 < s.size, ((s[5]'h).toNat : Int) = 101) (h6 : ∀ h : 6 < s.size, ((s[6]'h).toNat : Int) = 49) (W : World) :
    Calls Tryz.prog 66 #[.string s] W fun e W' => e = .returned (.tuple #[.int .u64 125, .int .i64 0, .bool true, .bool false, .bool false, .int .i64 7, .bool true]) ∧ W' = W := by
  go_enter Tryz.func66, Tryz.ntmps66
  go_wp2_with fail
  go_step3
  go_wp2_with fail
  go_step3
  go_wp2_with fail
  go_loopg [2, 5, 7, 9, 13, 14, 15, 16, 17] 5 (fun m s2 s5 s7 s9 s13 s14 s15 s16 s17 wx => W = wx ∧ s5 = .bool false ∧ s9 = .bool false ∧ (
    (m = 5 ∧ s2 = .int .u64 0 ∧ s7 = .int .i64 1 ∧ s13 = .bool false ∧ s14 = .bool false ∧ s15 = .int .i64 0 ∧ s16 = .int .i64 0 ∧ s17 = .int .i64 0) ∨
    (m = 4 ∧ s2 = .int .u64 1 ∧ s7 = .int .i64 2 ∧ s13 = .bool false ∧ s14 = .bool true ∧ s15 = .int .i64 1 ∧ s16 = .int .i64 1 ∧ s17 = .int .i64 0) ∨
    (m = 3 ∧ s2 = .int .u64 12 ∧ s7 = .int .i64 3 ∧ s13 = .bool false ∧ s14 = .bool true ∧ s15 = .int .i64 2 ∧ s16 = .int .i64 2 ∧ s17 = .int .i64 0) ∨
    (m = 2 ∧ s2 = .int .u64 12 ∧ s7 = .int .i64 4 ∧ s13 = .bool true ∧ s14 = .bool true ∧ s15 = .int .i64 2 ∧ s16 = .int .i64 2 ∧ s17 = .int .i64 2) ∨
    (m = 1 ∧ s2 = .int .u64 125 ∧ s7 = .int .i64 5 ∧ s13 = .bool true ∧ s14 = .bool true ∧ s15 = .int .i64 3 ∧ s16 = .int .i64 3 ∧ s17 = .int .i64 2)))
  case atStart => exact ⟨rfl, rfl, rfl, Or.inl ⟨rfl, rfl, rfl, rfl, rfl, rfl, rfl, rfl⟩⟩
  case round =>
    obtain ⟨rfl, rfl, rfl, h⟩ := hrel
    rcases h with ⟨rfl, rfl, rfl, rfl, rfl, rfl, rfl, rfl⟩ | ⟨rfl, rfl, rfl, rfl, rfl, rfl, rfl, rfl⟩ | ⟨rfl, rfl, rfl, rfl, rfl, rfl, rfl, rfl⟩ | ⟨rfl, rfl, rfl, rfl, rfl, rfl, rfl, rfl⟩ | ⟨rfl, rfl, rfl, rfl, rfl, rfl, rfl, rfl⟩
    · go_wp2_with fail
      go_roundg 4
      case measure => omega
      case rel => exact ⟨rfl, rfl, rfl, Or.inr (Or.inl ⟨rfl, rfl, rfl, rfl, rfl, rfl, rfl, rfl⟩)⟩
    · go_wp2_with fail
      go_roundg 3
      case measure => omega
      case rel => exact ⟨rfl, rfl, rfl, Or.inr (Or.inr (Or.inl ⟨rfl, rfl, rfl, rfl, rfl, rfl, rfl, rfl⟩))⟩
    · go_wp2_with fail
      go_roundg 2
      case measure => omega
      case rel => exact ⟨rfl, rfl, rfl, Or.inr (Or.inr (Or.inr (Or.inl ⟨rfl, rfl, rfl, rfl, rfl, rfl, rfl, rfl⟩)))⟩
    · go_wp2_with fail
      go_roundg 1
      case measure => omega
      case rel => exact ⟨rfl, rfl, rfl, Or.inr (Or.inr (Or.inr (Or.inr ⟨rfl, rfl, rfl, rfl, rfl, rfl, rfl, rfl⟩)))⟩
    · go_wp2_with (first | (go_at_call 82; refine (lowerE _).mono ?_; rintro e w ⟨rfl, hw⟩; rw [hw]))
      go_loopg [7, 9, 20] 1 (fun m s7 s9 s20 wx => W = wx ∧ s9 = .bool false ∧ ((m = 1 ∧ s7 = .int .i64 6 ∧ s20 = .int .i64 0) ∨ (m = 0 ∧ s7 = .int .i64 7 ∧ s20 = .int .i64 1)))
      case atStart => exact ⟨rfl, rfl, Or.inl ⟨rfl, rfl, rfl⟩⟩
      case round =>
        obtain ⟨rfl, rfl, h⟩ := hrel
        rcases h with ⟨rfl, rfl, rfl⟩ | ⟨rfl, rfl, rfl⟩
        · go_wp2_with fail
          go_roundg 0
          case measure => omega
          case rel => exact ⟨rfl, rfl, Or.inr ⟨rfl, rfl, rfl⟩⟩
        · go_wp2_with fail
          rw [Exit.noGoto_ret]
          refine bodyPost_ret (results_tmp7 rfl _ _ _) rfl ?_
          exact ⟨rfl, rfl⟩

set_option maxHeartbeats 2000000 in
theorem prefix12 (s t : ByteArray) (hs : s.size = 6) (ht : t.size = 8) (h0 : ∀ h : 0 < s.size, ((s[0]'h).toNat : Int) = 49) (t0 : ∀ h : 0 < t.size, ((t[0]'h).toNat : Int) = 105) (W : World) :
    Calls Tryz.prog 79 #[.string s, .string t] W fun e W' => e = .returned (.int .i64 0) ∧ W' = W := by
  go_enter Tryz.func79, Tryz.ntmps79
  go_wp2_with fail
  go_loopg [6, 7] 1 (fun _ s6 _ wx => W = wx ∧ s6 = .int .i64 0)
  case atStart => exact ⟨rfl, rfl⟩
  case round =>
    obtain ⟨rfl, rfl⟩ := hrel
    go_wp2_with fail
    go_ret
    exact ⟨rfl, rfl⟩
theorem run_neg (x : Nat) (w : World) : Sem.run Tryz.prog (Op.unary UnOp.neg (.float .f64 x)) w = .ok (.float .f64 (Op.negFloat .f64 x)) w := rfl
theorem run_bits (n : Int) (w : World) : Sem.run Tryz.prog (callFunc 75 #[.int .u64 n]) w = .ok (.value (.float .f64 n.toNat)) w :=
  run_callFunc_extern (e := Extern.MathFloatBits.float64frombits) Tryz.func75 (by kernel_rfl) (by kernel_rfl) (by kernel_rfl) (by kernel_rfl) _ w

set_option maxHeartbeats 2000000 in
theorem exact12 (W : World) (hc : W.cell? ⟨8, 0, none⟩ = some (.int .u64 52)) :
    Calls Tryz.prog 76 #[.int .u64 125, .int .i64 0, .bool true] W fun e W' => (∃ x, e = .returned (.tuple #[.float .f64 x, .bool true])) ∧ W' = W := by
  have hn := run_neg
  go_enter Tryz.func76, Tryz.ntmps76
  go_wp2
  go_ret2
  exact ⟨⟨_, rfl⟩, rfl⟩
set_option maxHeartbeats 2000000 in
theorem atof0 (s : ByteArray) (hs : s.size = 1) (h0 : ∀ h : 0 < s.size, ((s[0]'h).toNat : Int) = 48) (W : World) (ho : W.cell? ⟨7, 0, none⟩ = some (.bool true)) : 
    Calls Tryz.prog 62 #[.string s] W fun e W' => (∃ x, e = .returned (.tuple #[.float .f64 x, .int .i64 1, .nilIface])) ∧ W' = W := by
  have hn := run_bits
  go_enter Tryz.func62, Tryz.ntmps62
  go_wp2_with (first | (go_at_call 65; refine (special0 s hs h0 _).mono ?_; rintro e w ⟨rfl, hw⟩; rw [hw]) | (go_at_call 66; refine (readFloat0 s hs h0 _).mono ?_; rintro e w ⟨rfl, hw⟩; rw [hw]) | (go_at_call 74; go_in))
  go_ret3
  exact ⟨⟨_, rfl⟩, rfl⟩
set_option maxHeartbeats 2000000 in
theorem special12 (s : ByteArray) (hs : s.size = 7) (h0 : ∀ h : 0 < s.size, ((s[0]'h).toNat : Int) = 45) (h1 : ∀ h : 1 < s.size, ((s[1]'h).toNat : Int) = 49) (W : World) :
    Calls Tryz.prog 65 #[.string s] W fun e W' => e = .returned (.tuple #[.float .f64 0, .int .i64 0, .bool false]) ∧ W' = W := by
  go_enter Tryz.func65, Tryz.ntmps65
  go_wp2_with fail
  refine (prefix12 _ _ (by simp [ByteArray.size_extract, hs]) rfl (by intro h; rw [ByteArray.getElem_extract]; exact h1 _) (fun _ => rfl) _).mono ?_
  rintro e w ⟨rfl, hw⟩
  rw [hw]
  go_wp2
  go_ret3
  exact ⟨rfl, rfl⟩
set_option maxHeartbeats 2000000 in
theorem atof12 (s : ByteArray) (hs : s.size = 7) (h0 : ∀ h : 0 < s.size, ((s[0]'h).toNat : Int) = 45) (h1 : ∀ h : 1 < s.size, ((s[1]'h).toNat : Int) = 49) (h2 : ∀ h : 2 < s.size, ((s[2]'h).toNat : Int) = 50) (h3 : ∀ h : 3 < s.size, ((s[3]'h).toNat : Int) = 46) (h4 : ∀ h : 4 < s.size, ((s[4]'h).toNat : Int) = 53) (h5 : ∀ h : 5 < s.size, ((s[5]'h).toNat : Int) = 101) (h6 : ∀ h : 6 < s.size, ((s[6]'h).toNat : Int) = 49) (W : World)
    (ho : W.cell? ⟨7, 0, none⟩ = some (.bool true)) (hc : W.cell? ⟨8, 0, none⟩ = some (.int .u64 52)) :
    Calls Tryz.prog 62 #[.string s] W fun e W' => (∃ x, e = .returned (.tuple #[.float .f64 x, .int .i64 7, .nilIface])) ∧ W' = W := by
  go_enter Tryz.func62, Tryz.ntmps62
  go_wp2_with (first | (go_at_call 65; refine (special12 s hs h0 h1 _).mono ?_; rintro e w ⟨rfl, hw⟩; rw [hw]) | (go_at_call 66; refine (readFloat12 s hs h0 h1 h2 h3 h4 h5 h6 _).mono ?_; rintro e w ⟨rfl, hw⟩; rw [hw]) | (go_at_call 74; go_in) | (go_at_call 76; refine (exact12 _ hc).mono ?_; rintro e w ⟨⟨x, rfl⟩, hw⟩; rw [hw]))
  go_ret3
  exact ⟨⟨_, rfl⟩, rfl⟩
/-- strconv.ParseFloat, where atof64 takes the whole text. -/
theorem parseFloatW (s : ByteArray) (n : Nat) (hs : s.size = n) (W : World) (ha : Calls Tryz.prog 62 #[.string s] W fun e W' => (∃ x, e = .returned (.tuple #[.float .f64 x, .int .i64 (n : Int), .nilIface])) ∧ W' = W) :
    Calls Tryz.prog 41 #[.string s, .int .i64 64] W fun e W' => (∃ x, e = .returned (.tuple #[.float .f64 x, .nilIface])) ∧ W' = W := by
  have h55 : Calls Tryz.prog 55 #[.string s, .int .i64 64] W fun e W' => (∃ x, e = .returned (.tuple #[.float .f64 x, .int .i64 (n : Int), .nilIface])) ∧ W' = W := by
    go_enter Tryz.func55, Tryz.ntmps55
    go_wp2_with (first | (go_at_call 62; refine ha.mono ?_; rintro e w ⟨⟨x, rfl⟩, hw⟩; rw [hw]))
    go_ret3
    exact ⟨⟨_, rfl⟩, rfl⟩
  have h50 : Calls Tryz.prog 50 #[.string s, .int .i64 64] W fun e W' => (∃ x, e = .returned (.tuple #[.float .f64 x, .nilIface])) ∧ W' = W := by
    go_enter Tryz.func50, Tryz.ntmps50
    go_wp2_with (first | (go_at_call 55; refine h55.mono ?_; rintro e w ⟨⟨x, rfl⟩, hw⟩; rw [hw]))
    go_ret2
    exact ⟨⟨_, rfl⟩, rfl⟩
  go_enter Tryz.func41, Tryz.ntmps41
  go_wp2_with (first | (go_at_call 50; refine h50.mono ?_; rintro e w ⟨⟨x, rfl⟩, hw⟩; rw [hw]))
  go_ret2
  exact ⟨⟨_, rfl⟩, rfl⟩
/-- strconv.ParseFloat at "0". -/
theorem parse0 (W : World) (ho : W.cell? ⟨7, 0, none⟩ = some (.bool true)) :
    Calls Tryz.prog 41 #[.string ⟨#[48]⟩, .int .i64 64] W fun e W' => (∃ x, e = .returned (.tuple #[.float .f64 x, .nilIface])) ∧ W' = W :=
  parseFloatW _ 1 rfl W (atof0 _ rfl (fun _ => rfl) W ho)
/-- strconv.ParseFloat at "-12.5e1". -/
theorem parse12 (W : World) (ho : W.cell? ⟨7, 0, none⟩ = some (.bool true)) (hc : W.cell? ⟨8, 0, none⟩ = some (.int .u64 52)) :
    Calls Tryz.prog 41 #[.string ⟨#[45, 49, 50, 46, 53, 101, 49]⟩, .int .i64 64] W fun e W' => (∃ x, e = .returned (.tuple #[.float .f64 x, .nilIface])) ∧ W' = W :=
  parseFloatW _ 7 rfl W (atof12 _ rfl (fun _ => rfl) (fun _ => rfl) (fun _ => rfl) (fun _ => rfl) (fun _ => rfl) (fun _ => rfl) (fun _ => rfl) W ho hc)
end Go.Proofs.Qxb6604447aGreatFmt
