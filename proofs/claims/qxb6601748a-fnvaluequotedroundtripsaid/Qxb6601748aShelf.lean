/- The shelf of the kit, laid at this dump in plain words by the kit's own two tools, cut to what this seat uses. -/
import Derived.Shelf.Strings.Builder1
import Derived.Test.Qxb6601748aProg
namespace Go.Proofs
open Go.Shelf
def Try.lays169_ren : Go.Shelf.Ren := ⟨fun | 169 => 30 | n => n, fun | 70 => 56 | 9 => 9 | 0 => 0 | 72 => 58 | 37 => 43 | 127 => 62 | 3 => 3 | 5 => 5 | n => n, fun | n => n⟩
theorem Try.lays169 : Go.Proofs.Lays.n169 Try.prog Try.lays169_ren := {
  mixed := by kernel_rfl
  f169 := Try.func30.trans (congrArg some (by kernel_rfl))
  t0 := Try.underlying0
  a0 := Try.isAgg0
  z0 := Try.sizeOf0
  v0 := Try.zeroValue0
  t3 := Try.underlying3
  a3 := Try.isAgg3
  z3 := Try.sizeOf3
  v3 := Try.zeroValue3
  t9 := Try.underlying9
  a9 := Try.isAgg9
  z9 := Try.sizeOf9
  v9 := Try.zeroValue9
  t37 := Try.underlying43
  a37 := Try.isAgg43
  z37 := Try.sizeOf43
  v37 := Try.zeroValue43
  t70 := Try.underlying56
  a70 := Try.isAgg56
  z70 := Try.sizeOf56
  v70 := Try.zeroValue56
  t72 := Try.underlying58
  a72 := Try.isAgg58
  z72 := Try.sizeOf58
  v72 := Try.zeroValue58
  t127 := Try.underlying62
  a127 := Try.isAgg62
  z127 := Try.sizeOf62
  v127 := Try.zeroValue62 }
theorem Try.Builder_Extra_169 : Builder.Extra Try.prog Try.lays169_ren := {
  sizeBuilder := by kernel_rfl
  liesBuilder := by kernel_rfl
  t5 := Try.underlying5
  a5 := Try.isAgg5
  z5 := Try.sizeOf5
  v5 := Try.zeroValue5
  infoByte := by kernel_rfl
  cellsByte := by kernel_rfl
  sizeByte := by kernel_rfl
  neB5 := by decide }
open Go.RowKit in
theorem Try.Builder_String_any (B b : Nat) (l : List UInt8) (w : World) (h : Lib.IsBuilder 58 5 B b (Lib.byteCells l) w) (hBw : B ≤ w.heap.size) :
    Calls Try.prog 30 #[.pointer (some ⟨b, 0, none⟩)] w fun e w' => e = .returned (.string ⟨l.toArray⟩) ∧ Below B w w' := Any.Builder_String_any Try.lays169 Try.Builder_Extra_169 B b l w h hBw
end Go.Proofs
