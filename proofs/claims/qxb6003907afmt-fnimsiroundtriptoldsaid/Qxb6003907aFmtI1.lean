/-
  fmt.Errorf at the formats of the road: it hands back an error.
-/
import Derived.Test.Qxb6003907aFmtShelf
import Derived.WalkKit
import Derived.WalkSpells
import Derived.WalkLawsBesides
import Derived.Deep.QuietTactic
import Derived.BigQuiet
import Derived.Handy
import Derived.Laws.BitsAllLaws
import Derived.Laws.BytesArg
import Derived.Laws.Cells
import Derived.Stop.FmtTextSlices
import Derived.Stop.CallBack
import Derived.Stop.IfaceNil
import GoSem.ClaimData
namespace Go.Proofs.Qxb6003907aFmt
open Go.RowKit Go.Extern.Stop Go.Stop Go.Extern
theorem hide {p : Prop} (h : p) : Hid p := h
theorem unhide {p : Prop} (h : Hid p) : p := h
theorem ret_bool {a b : Bool} (h : a = b) : Ending.returned (.bool a) = .returned (.bool b) := by rw [h]
theorem call34 (args : Array Value) (w : World) : (callFunc 34 args).run Tryf.prog w = ((FmtStop.errorf #[9, 65] #[39] args).run Tryf.prog w).andThen fun v w' => .ok (.value v) w' :=
  run_callFunc_extern Tryf.func34 (by kernel_rfl) (by kernel_rfl) (by kernel_rfl) (by kernel_rfl) args w
theorem fguard (name : String) (w : World) : (FmtStop.guard name).run Tryf.prog w = .ok () w := by kernel_rfl
theorem ptrE (w : World) : (FmtStop.ptrTo "errors.errorString").run Tryf.prog w = .ok 67 w := by kernel_rfl
theorem elemE (w : World) : (elemOf 67).run Tryf.prog w = .ok 69 w := by kernel_rfl
def fmtA : ByteArray := ⟨#[103, 116, 112, 58, 32, 73, 77, 83, 73, 32, 37, 113, 32, 105, 115, 32, 110, 111, 116, 32, 49, 32, 116, 111, 32, 37, 100, 32, 100, 101, 99, 105, 109, 97, 108, 32, 100, 105, 103, 105, 116, 115]⟩
def fmtB : ByteArray := ⟨#[103, 116, 112, 58, 32, 37, 120, 32, 104, 111, 108, 100, 115, 32, 37, 88, 44, 32, 119, 104, 105, 99, 104, 32, 105, 115, 32, 110, 111, 32, 100, 105, 103, 105, 116]⟩
def fmtC : ByteArray := ⟨#[103, 116, 112, 58, 32, 37, 120, 32, 104, 111, 108, 100, 115, 32, 97, 32, 100, 105, 103, 105, 116, 32, 97, 102, 116, 101, 114, 32, 116, 104, 101, 32, 102, 105, 108, 108, 101, 114]⟩
def fmtD : ByteArray := ⟨#[103, 116, 112, 58, 32, 37, 120, 32, 104, 111, 108, 100, 115, 32, 110, 111, 32, 100, 105, 103, 105, 116]⟩
theorem fA : FmtStop.printed? fmtA 2 = some [(0, 113, false), (1, 100, false)] := by kernel_rfl
theorem fAr (w : World) : (FmtDoors.printed fmtA 2).run Tryf.prog w = .ok [(0, 113, false), (1, 100, false)] w := by kernel_rfl
theorem fB : FmtStop.printed? fmtB 2 = some [(0, 120, false), (1, 88, false)] := by kernel_rfl
theorem fBr (w : World) : (FmtDoors.printed fmtB 2).run Tryf.prog w = .ok [(0, 120, false), (1, 88, false)] w := by kernel_rfl
theorem fC : FmtStop.printed? fmtC 1 = some [(0, 120, false)] := by kernel_rfl
theorem fCr (w : World) : (FmtDoors.printed fmtC 1).run Tryf.prog w = .ok [(0, 120, false)] w := by kernel_rfl
theorem fD : FmtStop.printed? fmtD 1 = some [(0, 120, false)] := by kernel_rfl
theorem fDr (w : World) : (FmtDoors.printed fmtD 1).run Tryf.prog w = .ok [(0, 120, false)] w := by kernel_rfl
def shape9 : List UInt8 := [12, 6, 0, 0, 0, 0, 0, 0, 0, 115, 116, 114, 105, 110, 103]
def shape3 : List UInt8 := [5, 3, 0, 0, 0, 0, 0, 0, 0, 105, 110, 116]
def shape5 : List UInt8 := [6, 5, 0, 0, 0, 0, 0, 0, 0, 117, 105, 110, 116, 56]
def shape22 : List UInt8 := 13 :: (FmtStop.pack "[]uint8".toUTF8.data.toList ++ 6 :: FmtStop.pack "uint8".toUTF8.data.toList)
theorem op9 (name : String) (s : ByteArray) (w : World) : (FmtStop.operand name true 113 false (.iface 9 (.string s))).run Tryf.prog w = .ok (shape9, FmtStop.pack s.data.toList) w := by kernel_rfl
theorem op3 (name : String) (x : Int) (w : World) : (FmtStop.operand name true 100 false (.iface 3 (.int .i64 x))).run Tryf.prog w = .ok (shape3, digits 8 (x % 2 ^ 64).toNat) w := by kernel_rfl
theorem op5 (name : String) (x : Int) (w : World) : (FmtStop.operand name true 88 false (.iface 5 (.int .u8 x))).run Tryf.prog w = .ok (shape5, digits 8 (x % 2 ^ 64).toNat) w := by kernel_rfl
theorem value5 (name : String) (x : Int) (w : World) : (FmtStop.value name FmtStop.depth 5 [.int .u8 x]).run Tryf.prog w = .ok (digits 8 (x % 2 ^ 64).toNat) w := by kernel_rfl
theorem values5 (name : String) (w : World) : ∀ xs : List Int, (List.mapM ((fun c => FmtStop.value name FmtStop.depth 5 [c]) ∘ Value.int IntKind.u8) xs).run Tryf.prog w = .ok (xs.map fun x => digits 8 (x % 18446744073709551616).toNat) w
  | [] => by simp [List.mapM_nil]
  | x :: xs => by
    have ih := values5 name w xs
    have h := value5 name x w
    simp [List.mapM_cons, h, ih, Result.andThen]
theorem opBytes (name : String) (a : Addr) (cap : Nat) (xs : List Int) (w : World) (hc : ∀ j v, (xs.map (Value.int .u8))[j]? = some v → w.cell? (a.add j) = some v) :
    ∃ r, (FmtStop.operand name true 120 false (.iface 22 (.slice (some a) xs.length cap))).run Tryf.prog w = .ok r w := by
  refine ⟨(shape22, 1 :: (digits 8 xs.length ++ FmtText.intValues xs)), ?_⟩
  have h1 : (typeStr 22).run Tryf.prog w = .ok "[]uint8" w := by kernel_rfl
  have hb : (FmtStop.bare (FmtStop.asked true 120 false) 22).run Tryf.prog w = .ok true w := by kernel_rfl
  have hs : (FmtStop.scalar 5).run Tryf.prog w = .ok true w := by kernel_rfl
  have hy : (Extern.Stop.isByte 5).run Tryf.prog w = .ok true w := by kernel_rfl
  have hw : Tryf.prog.funcs.any (·.name == FmtStop.writeWord) = true := by kernel_rfl
  have hsh : (FmtStop.shape name (FmtStop.asked true 120 false) FmtStop.depth 5).run Tryf.prog w = .ok (6 :: FmtStop.pack "uint8".toUTF8.data.toList) w := by kernel_rfl
  have hl := run_loadCells_list (P := Tryf.prog) w a (xs.map (Value.int .u8)) hc
  rw [List.length_map] at hl
  simp [FmtStop.operand, h1, hb, hs, hy, hsh, hl, values5, shape22, FmtText.intValues]
  intro hno
  obtain ⟨i, hi, _, _, he⟩ := Array.any_iff_exists.1 hw
  exact absurd (by simpa using he) (hno i hi)
attribute [local go_sem] call34 fguard ptrE elemE op9 op3 op5
set_option maxHeartbeats 400000 in
theorem errorfA (s : ByteArray) (b : Nat) (w : World) (hc0 : w.cell? ⟨b, 0, none⟩ = some (.iface 9 (.string s))) (hc1 : w.cell? ⟨b, 1, none⟩ = some (.iface 3 (.int .i64 15))) :
    Calls Tryf.prog 24 #[.string fmtA, .slice (some ⟨b, 0, none⟩) 2 2] w fun e w' => (∃ t v, e = .returned (.iface t v)) ∧ Below w.heap.size w w' := by
  have f0 := fA
  have f0r := fAr
  generalize fmtA = S at *
  go_enter Tryf.func24, Tryf.ntmps24
  go_wp2
  go_ret
  exact ⟨⟨_, _, rfl⟩, ((Below.refl _ _).alloc (Nat.le_refl _) _).drew⟩
/-- The bytes that a slice holds. -/
def Bytes (a : Addr) (xs : List Int) (w : World) : Prop := ∀ j v, (xs.map (Value.int .u8))[j]? = some v → w.cell? (a.add j) = some v
set_option maxHeartbeats 400000 in
theorem errorfB (a : Addr) (cap : Nat) (xs : List Int) (x : Int) (b : Nat) (w : World) (hb : Bytes a xs w) (hc0 : w.cell? ⟨b, 0, none⟩ = some (.iface 22 (.slice (some a) xs.length cap))) (hc1 : w.cell? ⟨b, 1, none⟩ = some (.iface 5 (.int .u8 x))) :
    Calls Tryf.prog 24 #[.string fmtB, .slice (some ⟨b, 0, none⟩) 2 2] w fun e w' => (∃ t v, e = .returned (.iface t v)) ∧ Below w.heap.size w w' := by
  have f0 := fB
  have f0r := fBr
  obtain ⟨r, hr⟩ := opBytes "fmt.errorf" a cap xs w hb
  clear hb
  generalize fmtB = S at *
  go_enter Tryf.func24, Tryf.ntmps24
  go_wp2
  go_ret
  exact ⟨⟨_, _, rfl⟩, ((Below.refl _ _).alloc (Nat.le_refl _) _).drew⟩
set_option maxHeartbeats 400000 in
theorem errorfC (a : Addr) (cap : Nat) (xs : List Int) (b : Nat) (w : World) (hb : Bytes a xs w) (hc0 : w.cell? ⟨b, 0, none⟩ = some (.iface 22 (.slice (some a) xs.length cap))) :
    Calls Tryf.prog 24 #[.string fmtC, .slice (some ⟨b, 0, none⟩) 1 1] w fun e w' => (∃ t v, e = .returned (.iface t v)) ∧ Below w.heap.size w w' := by
  have f0 := fC
  have f0r := fCr
  obtain ⟨r, hr⟩ := opBytes "fmt.errorf" a cap xs w hb
  clear hb
  generalize fmtC = S at *
  go_enter Tryf.func24, Tryf.ntmps24
  go_wp2
  go_ret
  exact ⟨⟨_, _, rfl⟩, ((Below.refl _ _).alloc (Nat.le_refl _) _).drew⟩
set_option maxHeartbeats 400000 in
theorem errorfD (a : Addr) (cap : Nat) (xs : List Int) (b : Nat) (w : World) (hb : Bytes a xs w) (hc0 : w.cell? ⟨b, 0, none⟩ = some (.iface 22 (.slice (some a) xs.length cap))) :
    Calls Tryf.prog 24 #[.string fmtD, .slice (some ⟨b, 0, none⟩) 1 1] w fun e w' => (∃ t v, e = .returned (.iface t v)) ∧ Below w.heap.size w w' := by
  have f0 := fD
  have f0r := fDr
  obtain ⟨r, hr⟩ := opBytes "fmt.errorf" a cap xs w hb
  clear hb
  generalize fmtD = S at *
  go_enter Tryf.func24, Tryf.ntmps24
  go_wp2
  go_ret
  exact ⟨⟨_, _, rfl⟩, ((Below.refl _ _).alloc (Nat.le_refl _) _).drew⟩
end Go.Proofs.Qxb6003907aFmt
