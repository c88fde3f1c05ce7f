/-
  The library's contracts of strings.Builder, laid at this program (off the shelf: no walk).
-/
import Derived.Shelf.Lay
import Derived.Shelf.LaySoft
import Derived.Shelf.Strings.Builder1
import Derived.Test.Qxb6603151aProg
namespace Go.Proofs
open Go.Shelf
shelf_lay Lays.n169 Nm 169 at Try as Try.lays169
theorem Try.Builder_Extra_169 : Builder.Extra Try.prog Try.lays169_ren where
  sizeBuilder := by kernel_rfl
  liesBuilder := by kernel_rfl
  t5 := Try.underlying5
  a5 := Try.isAgg5
  z5 := Try.sizeOf5
  v5 := Try.zeroValue5
  infoByte := by kernel_rfl
  cellsByte := by kernel_rfl
  sizeByte := by kernel_rfl
  neB5 := by decide
open Go.RowKit in
theorem Try.Builder_String_any (B b : Nat) (l : List UInt8) (w : World) (h : Lib.IsBuilder 50 5 B b (Lib.byteCells l) w) (hBw : B ≤ w.heap.size) :
    Calls Try.prog 29 #[.pointer (some ⟨b, 0, none⟩)] w fun e w' => e = .returned (.string ⟨l.toArray⟩) ∧ Below B w w' := Any.Builder_String_any Try.lays169 Try.Builder_Extra_169 B b l w h hBw
end Go.Proofs
