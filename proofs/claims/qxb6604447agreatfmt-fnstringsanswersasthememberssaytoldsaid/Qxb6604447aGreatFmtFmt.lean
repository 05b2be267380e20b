/-
  The closed facts for fmt's stop at this dump, and what each call of fmt.Errorf on the road does: a new error, whatever its text.
-/
import Derived.Test.Qxb6604447aGreatFmtProg
import Derived.WalkKit
import Derived.WalkSpells
import Derived.WalkLawsBesides
import Derived.Stop.CallBack
import Derived.Stop.IfaceNil
import GoSem.ClaimData
namespace Go.Proofs.Qxb6604447aGreatFmt
set_option maxRecDepth 1000000
open Go.RowKit Go.Extern.Stop Go.Stop Go.Extern

theorem call36 (args : Array Value) (w : World) : (callFunc 36 args).run Tryz.prog w = ((FmtStop.errorf #[9, 56] #[30] args).run Tryz.prog w).andThen fun v w' => .ok (.value v) w' :=
  run_callFunc_extern Tryz.func36 (by kernel_rfl) (by kernel_rfl) (by kernel_rfl) (by kernel_rfl) args w
theorem fguard (name : String) (w : World) : (FmtStop.guard name).run Tryz.prog w = .ok () w := by kernel_rfl
theorem fp_utf : FmtStop.printed? ⟨#[111, 102, 102, 115, 101, 116, 32, 37, 100, 58, 32, 110, 111, 116, 32, 85, 84, 70, 45, 56]⟩ 1 = some [(0, 100, false)] := by kernel_rfl
theorem fq_utf (w : World) : (FmtDoors.printed ⟨#[111, 102, 102, 115, 101, 116, 32, 37, 100, 58, 32, 110, 111, 116, 32, 85, 84, 70, 45, 56]⟩ 1).run Tryz.prog w = .ok [(0, 100, false)] w := by kernel_rfl
theorem fp_twice : FmtStop.printed? ⟨#[109, 101, 109, 98, 101, 114, 32, 37, 113, 32, 97, 112, 112, 101, 97, 114, 115, 32, 116, 119, 105, 99, 101]⟩ 1 = some [(0, 113, false)] := by kernel_rfl
theorem fq_twice (w : World) : (FmtDoors.printed ⟨#[109, 101, 109, 98, 101, 114, 32, 37, 113, 32, 97, 112, 112, 101, 97, 114, 115, 32, 116, 119, 105, 99, 101]⟩ 1).run Tryz.prog w = .ok [(0, 113, false)] w := by kernel_rfl
theorem fp_nostr : FmtStop.printed? ⟨#[109, 101, 109, 98, 101, 114, 32, 37, 113, 32, 105, 115, 32, 110, 111, 116, 32, 97, 32, 115, 116, 114, 105, 110, 103]⟩ 1 = some [(0, 113, false)] := by kernel_rfl
theorem fq_nostr (w : World) : (FmtDoors.printed ⟨#[109, 101, 109, 98, 101, 114, 32, 37, 113, 32, 105, 115, 32, 110, 111, 116, 32, 97, 32, 115, 116, 114, 105, 110, 103]⟩ 1).run Tryz.prog w = .ok [(0, 113, false)] w := by kernel_rfl
theorem fp_noarr : FmtStop.printed? ⟨#[109, 101, 109, 98, 101, 114, 32, 37, 113, 32, 105, 115, 32, 110, 111, 116, 32, 97, 110, 32, 97, 114, 114, 97, 121]⟩ 1 = some [(0, 113, false)] := by kernel_rfl
theorem fq_noarr (w : World) : (FmtDoors.printed ⟨#[109, 101, 109, 98, 101, 114, 32, 37, 113, 32, 105, 115, 32, 110, 111, 116, 32, 97, 110, 32, 97, 114, 114, 97, 121]⟩ 1).run Tryz.prog w = .ok [(0, 113, false)] w := by kernel_rfl
theorem fp_holds : FmtStop.printed? ⟨#[109, 101, 109, 98, 101, 114, 32, 37, 113, 32, 104, 111, 108, 100, 115, 32, 97, 32, 118, 97, 108, 117, 101, 32, 116, 104, 97, 116, 32, 105, 115, 32, 110, 111, 116, 32, 97, 32, 115, 116, 114, 105, 110, 103]⟩ 1 = some [(0, 113, false)] := by kernel_rfl
theorem fq_holds (w : World) : (FmtDoors.printed ⟨#[109, 101, 109, 98, 101, 114, 32, 37, 113, 32, 104, 111, 108, 100, 115, 32, 97, 32, 118, 97, 108, 117, 101, 32, 116, 104, 97, 116, 32, 105, 115, 32, 110, 111, 116, 32, 97, 32, 115, 116, 114, 105, 110, 103]⟩ 1).run Tryz.prog w = .ok [(0, 113, false)] w := by kernel_rfl
def shape9 : List UInt8 := [12, 6, 0, 0, 0, 0, 0, 0, 0, 115, 116, 114, 105, 110, 103]
def shape3 : List UInt8 := [5, 3, 0, 0, 0, 0, 0, 0, 0, 105, 110, 116]
theorem op9_113 (name : String) (x : ByteArray) (w : World) : (FmtStop.operand name false 113 false (.iface 9 (.string x))).run Tryz.prog w = .ok (shape9, FmtStop.pack x.data.toList) w := by kernel_rfl
theorem op9_113w (name : String) (x : ByteArray) (w : World) : (FmtStop.operand name true 113 false (.iface 9 (.string x))).run Tryz.prog w = .ok (shape9, FmtStop.pack x.data.toList) w := by kernel_rfl
theorem op3_100 (name : String) (x : Int) (w : World) : (FmtStop.operand name false 100 false (.iface 3 (.int .i64 x))).run Tryz.prog w = .ok (shape3, Go.Extern.Stop.digits 8 (x % 2 ^ 64).toNat) w := by kernel_rfl
theorem op3_100w (name : String) (x : Int) (w : World) : (FmtStop.operand name true 100 false (.iface 3 (.int .i64 x))).run Tryz.prog w = .ok (shape3, Go.Extern.Stop.digits 8 (x % 2 ^ 64).toNat) w := by kernel_rfl
theorem ptr62 (w : World) : (FmtStop.ptrTo "errors.errorString").run Tryz.prog w = .ok 62 w := by kernel_rfl
theorem elem62 (w : World) : (elemOf 62).run Tryz.prog w = .ok 64 w := by kernel_rfl
theorem isError62 (w : World) : (FmtDoors.textMethod 62 "Error").run Tryz.prog w = .ok true w := by kernel_rfl
theorem ptr70 (w : World) : (FmtStop.ptrTo "fmt.wrapError").run Tryz.prog w = .ok 70 w := by kernel_rfl
theorem elem70 (w : World) : (elemOf 70).run Tryz.prog w = .ok 192 w := by kernel_rfl
theorem isError70 (w : World) : (FmtDoors.textMethod 70 "Error").run Tryz.prog w = .ok true w := by kernel_rfl
attribute [local go_sem] call36 fguard op9_113 op9_113w op3_100 op3_100w ptr62 elem62 isError62 ptr70 elem70 isError70 fp_utf fq_utf fp_twice fq_twice fp_nostr fq_nostr fp_noarr fq_noarr fp_holds fq_holds

theorem errorf_utf (F : Interp) (x : Int) (blk : Nat) (w : World) (hF : F.answers w.tape) (hc0 : w.cell? ⟨blk, 0, none⟩ = some (.iface 3 (.int .i64 x))) :
    Calls Tryz.prog 26 #[.string ⟨#[111, 102, 102, 115, 101, 116, 32, 37, 100, 58, 32, 110, 111, 116, 32, 85, 84, 70, 45, 56]⟩, .slice (some ⟨blk, 0, none⟩) 1 1] w fun e w' => (∃ x, e = .returned (.iface 62 x)) ∧ Below w.heap.size w w' := by
  have hF' := answers_open hF
  go_enter Tryz.func26, Tryz.ntmps26
  go_wp2
  go_ret
  exact ⟨⟨_, rfl⟩, ((Below.refl _ _).alloc (Nat.le_refl _) _).drew⟩
theorem errorf_twice (F : Interp) (x : ByteArray) (blk : Nat) (w : World) (hF : F.answers w.tape) (hc0 : w.cell? ⟨blk, 0, none⟩ = some (.iface 9 (.string x))) :
    Calls Tryz.prog 26 #[.string ⟨#[109, 101, 109, 98, 101, 114, 32, 37, 113, 32, 97, 112, 112, 101, 97, 114, 115, 32, 116, 119, 105, 99, 101]⟩, .slice (some ⟨blk, 0, none⟩) 1 1] w fun e w' => (∃ x, e = .returned (.iface 62 x)) ∧ Below w.heap.size w w' := by
  have hF' := answers_open hF
  go_enter Tryz.func26, Tryz.ntmps26
  go_wp2
  go_ret
  exact ⟨⟨_, rfl⟩, ((Below.refl _ _).alloc (Nat.le_refl _) _).drew⟩
theorem errorf_nostr (F : Interp) (x : ByteArray) (blk : Nat) (w : World) (hF : F.answers w.tape) (hc0 : w.cell? ⟨blk, 0, none⟩ = some (.iface 9 (.string x))) :
    Calls Tryz.prog 26 #[.string ⟨#[109, 101, 109, 98, 101, 114, 32, 37, 113, 32, 105, 115, 32, 110, 111, 116, 32, 97, 32, 115, 116, 114, 105, 110, 103]⟩, .slice (some ⟨blk, 0, none⟩) 1 1] w fun e w' => (∃ x, e = .returned (.iface 62 x)) ∧ Below w.heap.size w w' := by
  have hF' := answers_open hF
  go_enter Tryz.func26, Tryz.ntmps26
  go_wp2
  go_ret
  exact ⟨⟨_, rfl⟩, ((Below.refl _ _).alloc (Nat.le_refl _) _).drew⟩
theorem errorf_noarr (F : Interp) (x : ByteArray) (blk : Nat) (w : World) (hF : F.answers w.tape) (hc0 : w.cell? ⟨blk, 0, none⟩ = some (.iface 9 (.string x))) :
    Calls Tryz.prog 26 #[.string ⟨#[109, 101, 109, 98, 101, 114, 32, 37, 113, 32, 105, 115, 32, 110, 111, 116, 32, 97, 110, 32, 97, 114, 114, 97, 121]⟩, .slice (some ⟨blk, 0, none⟩) 1 1] w fun e w' => (∃ x, e = .returned (.iface 62 x)) ∧ Below w.heap.size w w' := by
  have hF' := answers_open hF
  go_enter Tryz.func26, Tryz.ntmps26
  go_wp2
  go_ret
  exact ⟨⟨_, rfl⟩, ((Below.refl _ _).alloc (Nat.le_refl _) _).drew⟩
theorem errorf_holds (F : Interp) (x : ByteArray) (blk : Nat) (w : World) (hF : F.answers w.tape) (hc0 : w.cell? ⟨blk, 0, none⟩ = some (.iface 9 (.string x))) :
    Calls Tryz.prog 26 #[.string ⟨#[109, 101, 109, 98, 101, 114, 32, 37, 113, 32, 104, 111, 108, 100, 115, 32, 97, 32, 118, 97, 108, 117, 101, 32, 116, 104, 97, 116, 32, 105, 115, 32, 110, 111, 116, 32, 97, 32, 115, 116, 114, 105, 110, 103]⟩, .slice (some ⟨blk, 0, none⟩) 1 1] w fun e w' => (∃ x, e = .returned (.iface 62 x)) ∧ Below w.heap.size w w' := by
  have hF' := answers_open hF
  go_enter Tryz.func26, Tryz.ntmps26
  go_wp2
  go_ret
  exact ⟨⟨_, rfl⟩, ((Below.refl _ _).alloc (Nat.le_refl _) _).drew⟩
end Go.Proofs.Qxb6604447aGreatFmt
