/-
  The shelf's contracts on the Builder's two writing methods at this dump: laid by hand (the shelf's own tool falls: no body of the closure names the types 9 and 20).
-/
import Derived.Shelf.Strings.Builder1
import Derived.Test.Qxb6614616aDoorProg
namespace Go.Proofs
open Go.Shelf
def Tryd.laysB_ren : Go.Shelf.Ren := ⟨fun | 166 => 22 | 167 => 23 | 169 => 24 | 240 => 32 | 276 => 40 | n => n, fun | 9 => 9 | 4 => 4 | 3 => 3 | 5 => 5 | 72 => 46 | 0 => 0 | 75 => 48 | 70 => 44 | 20 => 20 | 37 => 28 | 164 => 65 | 80 => 33 | 76 => 49 | 107 => 51 | n => n, fun | n => n⟩
set_option maxHeartbeats 2000000 in
theorem Tryd.laysB166 : Lays.n166 Tryd.prog Tryd.laysB_ren := by
  constructor
  all_goals first | kernel_rfl | (intro w; kernel_rfl)
set_option maxHeartbeats 2000000 in
theorem Tryd.laysB167 : Lays.n167 Tryd.prog Tryd.laysB_ren := by
  constructor
  all_goals first | kernel_rfl | (intro w; kernel_rfl)
theorem Tryd.extraB : Builder.Extra Tryd.prog Tryd.laysB_ren where
  sizeBuilder := by kernel_rfl
  liesBuilder := by kernel_rfl
  t5 := Tryd.underlying5
  a5 := Tryd.isAgg5
  z5 := Tryd.sizeOf5
  v5 := Tryd.zeroValue5
  infoByte := by kernel_rfl
  cellsByte := by kernel_rfl
  sizeByte := by kernel_rfl
  neB5 := by decide
open Go.RowKit in
theorem Tryd.Builder_WriteByte (B b : Nat) (bs : List Value) (c : Int) (w : World) (h : Lib.IsBuilder 46 5 B b bs w) (hlen : bs.length + 1 ≤ 140737488355328) (hBw : B ≤ w.heap.size) :
    Calls Tryd.prog 23 #[.pointer (some ⟨b, 0, none⟩), .int .u8 c] w fun e w' => e = .returned .nilIface ∧ (Lib.BuilderAt 46 5 B b (.pointer (some ⟨b, 0, none⟩)) (bs ++ [.int .u8 c]) w' ∧ Below B w w') := Any.Builder_WriteByte Tryd.laysB167 Tryd.extraB B b bs c w h hlen hBw
open Go.RowKit in
theorem Tryd.Builder_WriteString (B b : Nat) (bs : List Value) (s : ByteArray) (w : World) (h : Lib.IsBuilder 46 5 B b bs w) (hlen : bs.length + s.size ≤ 140737488355328) (hBw : B ≤ w.heap.size) :
    Calls Tryd.prog 22 #[.pointer (some ⟨b, 0, none⟩), .string s] w fun e w' => e = .returned (.tuple #[.int .i64 s.size, .nilIface]) ∧ (Lib.BuilderAt 46 5 B b (.pointer (some ⟨b, 0, none⟩)) (bs ++ Lib.strCells s) w' ∧ Below B w w') := Any.Builder_WriteString Tryd.laysB166 Tryd.extraB B b bs s w h hlen hBw
end Go.Proofs
