/-
  DERIVED: THE SHELF's CONTRACTS AT THIS DUMP, IN PLAIN WORDS (tools/lay-plain.mjs out of 'Qxb6614616aDoorShelf.lean', which tools/lay-shelf.mjs wrote): THE SAME DECLARATIONS UNDER THE SAME NAMES: 'import', 'namespace', 'open', 'def', 'theorem' AND NOTHING ELSE: no command of the shelf's: FOR A HAND-IN. Each laying: the table of numbers ('.._ren') and one theorem, a field a fact of the dump's own or the kernel's comparison; each contract: ONE APPLICATION.
-/
import Derived.Shelf.Strings.Builder1
import Derived.Shelf.Small.Strs
import Derived.Shelf.Strings.BuilderF
import Derived.Shelf.Strings.BuilderK
import Derived.Shelf.Strings.Search1
import Derived.Shelf.Strings.Search2
import Derived.Shelf.Strings.Search3
import Derived.Shelf.LaysM
import Derived.Shelf.Strings.Shaped
import Derived.Shelf.Strings.Prefix
import Derived.Shelf.Unicode.DecodeSlow
import Derived.Shelf.Unicode.DecodeAny
import Derived.Shelf.Strings.BuilderCap
import Derived.Test.Qxb6614616aDoorProg
namespace Go.Proofs
open Go.Shelf
def Tryd.lays169_ren : Go.Shelf.Ren := ⟨fun | 169 => 24 | n => n, fun | 70 => 44 | 9 => 9 | 0 => 0 | 72 => 46 | 37 => 28 | 127 => 60 | 3 => 3 | 5 => 5 | n => n, fun | n => n⟩
theorem Tryd.lays169 : Go.Proofs.Lays.n169 Tryd.prog Tryd.lays169_ren := {
  mixed := by kernel_rfl
  f169 := Tryd.func24.trans (congrArg some (by kernel_rfl))
  t0 := Tryd.underlying0
  a0 := Tryd.isAgg0
  z0 := Tryd.sizeOf0
  v0 := Tryd.zeroValue0
  t3 := Tryd.underlying3
  a3 := Tryd.isAgg3
  z3 := Tryd.sizeOf3
  v3 := Tryd.zeroValue3
  t9 := Tryd.underlying9
  a9 := Tryd.isAgg9
  z9 := Tryd.sizeOf9
  v9 := Tryd.zeroValue9
  t37 := Tryd.underlying28
  a37 := Tryd.isAgg28
  z37 := Tryd.sizeOf28
  v37 := Tryd.zeroValue28
  t70 := Tryd.underlying44
  a70 := Tryd.isAgg44
  z70 := Tryd.sizeOf44
  v70 := Tryd.zeroValue44
  t72 := Tryd.underlying46
  a72 := Tryd.isAgg46
  z72 := Tryd.sizeOf46
  v72 := Tryd.zeroValue46
  t127 := Tryd.underlying60
  a127 := Tryd.isAgg60
  z127 := Tryd.sizeOf60
  v127 := Tryd.zeroValue60 }
theorem Tryd.Builder_Extra_169 : Builder.Extra Tryd.prog Tryd.lays169_ren := {
  sizeBuilder := by kernel_rfl
  liesBuilder := by kernel_rfl
  t5 := Tryd.underlying5
  a5 := Tryd.isAgg5
  z5 := Tryd.sizeOf5
  v5 := Tryd.zeroValue5
  infoByte := by kernel_rfl
  cellsByte := by kernel_rfl
  sizeByte := by kernel_rfl
  neB5 := by decide }
open Go.RowKit in
theorem Tryd.Builder_String (B b : Nat) (l : List UInt8) (w : World) (h : Lib.IsBuilder 46 5 B b (Lib.byteCells l) w) (h0 : l ≠ []) :
    Calls Tryd.prog 24 #[.pointer (some ⟨b, 0, none⟩)] w fun e w' => e = .returned (.string ⟨l.toArray⟩) ∧ Below B w w' := Any.Builder_String Tryd.lays169 Tryd.Builder_Extra_169 B b l w h h0
open Go.RowKit in
theorem Tryd.Builder_String_empty (B b : Nat) (w : World) (h : Lib.IsBuilder 46 5 B b [] w) (hBw : B ≤ w.heap.size) :
    Calls Tryd.prog 24 #[.pointer (some ⟨b, 0, none⟩)] w fun e w' => e = .returned (.string ⟨#[]⟩) ∧ Below B w w' := Any.Builder_String_empty Tryd.lays169 Tryd.Builder_Extra_169 B b w h hBw
open Go.RowKit in
theorem Tryd.Builder_String_any (B b : Nat) (l : List UInt8) (w : World) (h : Lib.IsBuilder 46 5 B b (Lib.byteCells l) w) (hBw : B ≤ w.heap.size) :
    Calls Tryd.prog 24 #[.pointer (some ⟨b, 0, none⟩)] w fun e w' => e = .returned (.string ⟨l.toArray⟩) ∧ Below B w w' := Any.Builder_String_any Tryd.lays169 Tryd.Builder_Extra_169 B b l w h hBw
def Tryd.lays137_ren : Go.Shelf.Ren := ⟨fun | 137 => 27 | 217 => 37 | 266 => 43 | n => n, fun | 9 => 9 | 5 => 5 | 3 => 3 | n => n, fun | n => n⟩
theorem Tryd.lays137 : Go.Proofs.Lays.n137 Tryd.prog Tryd.lays137_ren := {
  mixed := by kernel_rfl
  f137 := Tryd.func27.trans (congrArg some (by kernel_rfl))
  f217 := Tryd.func37.trans (congrArg some (by kernel_rfl))
  f266 := Tryd.func43.trans (congrArg some (by kernel_rfl))
  t3 := Tryd.underlying3
  a3 := Tryd.isAgg3
  z3 := Tryd.sizeOf3
  v3 := Tryd.zeroValue3
  t5 := Tryd.underlying5
  a5 := Tryd.isAgg5
  z5 := Tryd.sizeOf5
  v5 := Tryd.zeroValue5
  t9 := Tryd.underlying9
  a9 := Tryd.isAgg9
  z9 := Tryd.sizeOf9
  v9 := Tryd.zeroValue9 }
open Go.RowKit in
theorem Tryd.strings_IndexByte (s : ByteArray) (c : Int) (w : World) :
    Calls Tryd.prog 27 #[.string s, .int .u8 c] w fun e w' => e = .returned (.int .i64 (Lib.indexByte s.data.toList c.toNat.toUInt8)) ∧ w' = w := Any.strings_IndexByte Tryd.lays137 s c w
def Tryd.lays143_ren : Go.Shelf.Ren := ⟨fun | 143 => 35 | 219 => 42 | 217 => 37 | 225 => 44 | 224 => 45 | 267 => 46 | 266 => 43 | 314 => 47 | n => n, fun | 9 => 9 | 3 => 3 | 4 => 4 | 5 => 5 | 46 => 68 | 146 => 74 | 51 => 73 | n => n, fun | 1 => 2 | n => n⟩
theorem Tryd.lays143 : Go.Proofs.Lays.n143 Tryd.prog Tryd.lays143_ren := {
  mixed := by kernel_rfl
  f143 := Tryd.func35.trans (congrArg some (by kernel_rfl))
  f217 := Tryd.func37.trans (congrArg some (by kernel_rfl))
  f219 := Tryd.func42.trans (congrArg some (by kernel_rfl))
  f224 := Tryd.func45.trans (congrArg some (by kernel_rfl))
  f225 := Tryd.func44.trans (congrArg some (by kernel_rfl))
  f266 := Tryd.func43.trans (congrArg some (by kernel_rfl))
  f267 := Tryd.func46.trans (congrArg some (by kernel_rfl))
  f314 := Tryd.func47.trans (congrArg some (by kernel_rfl))
  t3 := Tryd.underlying3
  a3 := Tryd.isAgg3
  z3 := Tryd.sizeOf3
  v3 := Tryd.zeroValue3
  t4 := Tryd.underlying4
  a4 := Tryd.isAgg4
  z4 := Tryd.sizeOf4
  v4 := Tryd.zeroValue4
  t5 := Tryd.underlying5
  a5 := Tryd.isAgg5
  z5 := Tryd.sizeOf5
  v5 := Tryd.zeroValue5
  t9 := Tryd.underlying9
  a9 := Tryd.isAgg9
  z9 := Tryd.sizeOf9
  v9 := Tryd.zeroValue9
  t46 := Tryd.underlying68
  a46 := Tryd.isAgg68
  z46 := Tryd.sizeOf68
  v46 := Tryd.zeroValue68
  t51 := Tryd.underlying73
  a51 := Tryd.isAgg73
  z51 := Tryd.sizeOf73
  v51 := Tryd.zeroValue73
  t146 := Tryd.underlying74
  a146 := Tryd.isAgg74
  z146 := Tryd.sizeOf74
  v146 := Tryd.zeroValue74
  g1 := by kernel_rfl }
open Go.RowKit Go.Lib in
theorem Tryd.strings_Index_one (s : ByteArray) (c : UInt8) (w : World) :
    Calls Tryd.prog 35 #[.string s, .string ⟨#[c]⟩] w fun e w' => e = .returned (.int .i64 (Lib.indexByte s.data.toList c)) ∧ w' = w := Any.strings_Index_one Tryd.lays143 s c w
def Tryd.lays99_ren : Go.Shelf.Ren := ⟨fun | 99 => 26 | 206 => 36 | n => n, fun | 9 => 9 | 4 => 4 | 3 => 3 | n => n, fun | n => n⟩
theorem Tryd.lays99 : Go.Proofs.Lays.n99 Tryd.prog Tryd.lays99_ren := {
  mixed := by kernel_rfl
  f99 := Tryd.func26.trans (congrArg some (by kernel_rfl))
  f206 := Tryd.func36.trans (congrArg some (by kernel_rfl))
  t3 := Tryd.underlying3
  a3 := Tryd.isAgg3
  z3 := Tryd.sizeOf3
  v3 := Tryd.zeroValue3
  t4 := Tryd.underlying4
  a4 := Tryd.isAgg4
  z4 := Tryd.sizeOf4
  v4 := Tryd.zeroValue4
  t9 := Tryd.underlying9
  a9 := Tryd.isAgg9
  z9 := Tryd.sizeOf9
  v9 := Tryd.zeroValue9 }
open Go.RowKit Go.Lib in
theorem Tryd.strings_HasPrefix (s p : ByteArray) (w : World) :
    Calls Tryd.prog 26 #[.string s, .string p] w fun e w' => e = .returned (.bool (Lib.hasPrefix s.data.toList p.data.toList)) ∧ w' = w := Any.strings_HasPrefix Tryd.lays99 s p w
end Go.Proofs
