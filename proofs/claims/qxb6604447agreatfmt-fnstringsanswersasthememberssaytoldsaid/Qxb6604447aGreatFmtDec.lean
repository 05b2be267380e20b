/-
  utf8.DecodeRune over a list of bytes.
-/
import Derived.Test.Qxb6604447aGreatFmtShelf
import Derived.Test.Qxb6604447aGreatFmtPlain
import Derived.Test.Qxb6604447aGreatFmtRd
namespace Go.Proofs.Qxb6604447aGreatFmt
open Go.RowKit Go.Lib

theorem mk_get (l : List UInt8) (i : Nat) : (⟨l.toArray⟩ : ByteArray).get! i = l.getD i 0 := by
  show l.toArray[i]! = _
  rw [getElem!_def, List.getElem?_toArray, List.getD]
  cases l[i]? <;> rfl
theorem mk_size (l : List UInt8) : (⟨l.toArray⟩ : ByteArray).size = l.length := by
  show l.toArray.size = _
  simp
theorem decodeGo_dec (l : List UInt8) (h : l ≠ []) : Lib.decodeGo ⟨l.toArray⟩ = dec l := by
  have h0 : ¬ (⟨l.toArray⟩ : ByteArray).size = 0 := by
    rw [mk_size]; intro e; exact h (List.eq_nil_of_length_eq_zero e)
  simp only [Lib.decodeGo, h0, if_false]
  rw [Lib.decode_at, mk_size, mk_get, mk_get, mk_get, mk_get]
  rfl

theorem decodeRuneW (l : List UInt8) (b off cap : Nat) (W : World) (hl : l ≠ []) (hT : Lib.Utf8Tabs 1 2 W) (hp : ∀ (j : Nat) (x : UInt8), l[j]? = some x → W.cell? ⟨b, off + j, none⟩ = some (.int .u8 (x.toNat : Int))) :
    Calls Tryz.prog 35 #[.slice (some ⟨b, off, none⟩) l.length cap] W fun e W' => e = .returned (.tuple #[.int .i32 ((dec l).1 : Int), .int .i64 ((dec l).2 : Int)]) ∧ Below W.heap.size W W' := by
  have h := Tryz.utf8_DecodeRune ⟨l.toArray⟩ b off cap W hT (fun j hj => by
    rw [mk_size] at hj
    rw [mk_get]
    have hx : l[j]? = some (l[j]'hj) := List.getElem?_eq_getElem hj
    rw [hp j _ hx, List.getD, hx]; rfl)
  rw [mk_size, decodeGo_dec l hl] at h
  exact h
end Go.Proofs.Qxb6604447aGreatFmt
