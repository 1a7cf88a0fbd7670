/-
  DERIVED: THE SHELF's CONTRACTS AT THIS DUMP, IN PLAIN WORDS (tools/lay-plain.mjs out of 'Qxb6003907aFmtShelfRaw.lean', which tools/lay-shelf.mjs wrote): THE SAME DECLARATIONS UNDER THE SAME NAMES: 'import', 'namespace', 'open', 'def', 'theorem' AND NOTHING ELSE: no command of the shelf's: FOR A HAND-IN. Each laying: the table of numbers ('.._ren') and one theorem, a field a fact of the dump's own or the kernel's comparison; each contract: ONE APPLICATION.
-/
import Derived.Shelf.Strings.SlTrimAscii
import Derived.Test.Qxb6003907aFmtProg
namespace Go.Proofs
open Go.Shelf
def Tryf.lays160_ren : Go.Shelf.Ren := ⟨fun | 160 => 23 | 232 => 28 | 231 => 27 | 227 => 29 | 234 => 31 | 233 => 30 | 236 => 33 | 235 => 32 | 228 => 35 | 271 => 38 | 151 => 37 | 197 => 36 | 120 => 41 | 152 => 40 | 260 => 39 | 137 => 42 | 119 => 43 | 224 => 44 | 225 => 45 | 217 => 46 | 266 => 47 | n => n, fun | 9 => 9 | 4 => 4 | 3 => 3 | 5 => 5 | 117 => 61 | 116 => 60 | 0 => 0 | 124 => 64 | 21 => 21 | 105 => 71 | 46 => 76 | 119 => 75 | 139 => 79 | 138 => 78 | n => n, fun | 3 => 0 | 4 => 1 | n => n⟩
theorem Tryf.lays160 : Go.Proofs.Lays.n160 Tryf.prog Tryf.lays160_ren := {
  mixed := by kernel_rfl
  f119 := Tryf.func43.trans (congrArg some (by kernel_rfl))
  f120 := Tryf.func41.trans (congrArg some (by kernel_rfl))
  f137 := Tryf.func42.trans (congrArg some (by kernel_rfl))
  f151 := Tryf.func37.trans (congrArg some (by kernel_rfl))
  f152 := Tryf.func40.trans (congrArg some (by kernel_rfl))
  f160 := Tryf.func23.trans (congrArg some (by kernel_rfl))
  f197 := Tryf.func36.trans (congrArg some (by kernel_rfl))
  f217 := Tryf.func46.trans (congrArg some (by kernel_rfl))
  f224 := Tryf.func44.trans (congrArg some (by kernel_rfl))
  f225 := Tryf.func45.trans (congrArg some (by kernel_rfl))
  f227 := Tryf.func29.trans (congrArg some (by kernel_rfl))
  f228 := Tryf.func35.trans (congrArg some (by kernel_rfl))
  f231 := Tryf.func27.trans (congrArg some (by kernel_rfl))
  f232 := Tryf.func28.trans (congrArg some (by kernel_rfl))
  f233 := Tryf.func30.trans (congrArg some (by kernel_rfl))
  f234 := Tryf.func31.trans (congrArg some (by kernel_rfl))
  f235 := Tryf.func32.trans (congrArg some (by kernel_rfl))
  f236 := Tryf.func33.trans (congrArg some (by kernel_rfl))
  f260 := Tryf.func39.trans (congrArg some (by kernel_rfl))
  f266 := Tryf.func47.trans (congrArg some (by kernel_rfl))
  f271 := Tryf.func38.trans (congrArg some (by kernel_rfl))
  t0 := Tryf.underlying0
  a0 := Tryf.isAgg0
  z0 := Tryf.sizeOf0
  v0 := Tryf.zeroValue0
  t3 := Tryf.underlying3
  a3 := Tryf.isAgg3
  z3 := Tryf.sizeOf3
  v3 := Tryf.zeroValue3
  t4 := Tryf.underlying4
  a4 := Tryf.isAgg4
  z4 := Tryf.sizeOf4
  v4 := Tryf.zeroValue4
  t5 := Tryf.underlying5
  a5 := Tryf.isAgg5
  z5 := Tryf.sizeOf5
  v5 := Tryf.zeroValue5
  t9 := Tryf.underlying9
  a9 := Tryf.isAgg9
  z9 := Tryf.sizeOf9
  v9 := Tryf.zeroValue9
  t21 := Tryf.underlying21
  a21 := Tryf.isAgg21
  z21 := Tryf.sizeOf21
  v21 := Tryf.zeroValue21
  t46 := Tryf.underlying76
  a46 := Tryf.isAgg76
  z46 := Tryf.sizeOf76
  v46 := Tryf.zeroValue76
  t105 := Tryf.underlying71
  a105 := Tryf.isAgg71
  z105 := Tryf.sizeOf71
  v105 := Tryf.zeroValue71
  t116 := Tryf.underlying60
  a116 := Tryf.isAgg60
  z116 := Tryf.sizeOf60
  t117 := Tryf.underlying61
  a117 := Tryf.isAgg61
  z117 := Tryf.sizeOf61
  v117 := Tryf.zeroValue61
  t119 := Tryf.underlying75
  a119 := Tryf.isAgg75
  z119 := Tryf.sizeOf75
  t124 := Tryf.underlying64
  a124 := Tryf.isAgg64
  z124 := Tryf.sizeOf64
  v124 := Tryf.zeroValue64
  t138 := Tryf.underlying78
  a138 := Tryf.isAgg78
  z138 := Tryf.sizeOf78
  v138 := Tryf.zeroValue78
  t139 := Tryf.underlying79
  a139 := Tryf.isAgg79
  z139 := Tryf.sizeOf79
  v139 := Tryf.zeroValue79
  g3 := by kernel_rfl
  g4 := by kernel_rfl }
open Go.RowKit in
theorem Tryf.strings_Trim_digits (s : ByteArray) (w : World) (hs : s.size ≤ 9223372036854775807) :
    Calls Tryf.prog 23 #[.string s, .string ⟨#[48, 49, 50, 51, 52, 53, 54, 55, 56, 57]⟩] w fun e w' => e = .returned (.string ⟨(Lib.trimS s.data.toList [48, 49, 50, 51, 52, 53, 54, 55, 56, 57]).toArray⟩) ∧ Below w.heap.size w w' := Any.strings_Trim_laid Tryf.lays160 (by kernel_rfl) s ⟨#[48, 49, 50, 51, 52, 53, 54, 55, 56, 57]⟩ w hs (by decide) (ascii_of_all (by decide))
end Go.Proofs
