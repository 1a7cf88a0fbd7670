/-
  fmt.Errorf at the one format of the road; refuse; the tests on characters.
-/
import Derived.Test.Qxb6614616aFmtShelf
import Derived.WalkKit
import Derived.WalkSpells
import Derived.WalkLawsBesides
import Derived.Deep.QuietTactic
import Derived.BigQuiet
import Derived.Handy
import Derived.Laws.BitsAllLaws
import Derived.Stop.CallBack
import Derived.Stop.IfaceNil
import GoSem.ClaimData
namespace Go.Proofs.Qxb6614616aFmt
open Go.RowKit Go.Extern.Stop Go.Stop Go.Extern
theorem hide {p : Prop} (h : p) : Hid p := h
theorem unhide {p : Prop} (h : Hid p) : p := h
theorem ret_bool {a b : Bool} (h : a = b) : Ending.returned (.bool a) = .returned (.bool b) := by rw [h]
theorem call29 (args : Array Value) (w : World) : (callFunc 29 args).run Tryf.prog w = ((FmtStop.errorf #[9, 57] #[39] args).run Tryf.prog w).andThen fun v w' => .ok (.value v) w' :=
  run_callFunc_extern Tryf.func29 (by kernel_rfl) (by kernel_rfl) (by kernel_rfl) (by kernel_rfl) args w
theorem fguard (name : String) (w : World) : (FmtStop.guard name).run Tryf.prog w = .ok () w := by kernel_rfl
def fmtS : ByteArray := ⟨#[116, 104, 101, 32, 85, 82, 76, 32, 104, 111, 108, 100, 115, 32, 37, 113, 44, 32, 119, 104, 105, 99, 104, 32, 110, 111, 32, 73, 82, 73, 32, 104, 111, 108, 100, 115, 32, 116, 104, 101, 114, 101]⟩
theorem fmt0 : FmtStop.printed? fmtS 1 = some [(0, 113, false)] := by kernel_rfl
theorem fmt0r (w : World) : (FmtDoors.printed fmtS 1).run Tryf.prog w = .ok [(0, 113, false)] w := by kernel_rfl
def shape21 : List UInt8 := [4, 5, 0, 0, 0, 0, 0, 0, 0, 105, 110, 116, 51, 50]
theorem op21 (name : String) (x : Int) (w : World) : (FmtStop.operand name true 113 false (.iface 21 (.int .i32 x))).run Tryf.prog w = .ok (shape21, Go.Extern.Stop.digits 8 (x % 2 ^ 64).toNat) w := by kernel_rfl
theorem strict21 (name : String) (x : Int) (w : World) : (FmtStop.strict name (.iface 21 (.int .i32 x))).run Tryf.prog w = .ok (shape21, Go.Extern.Stop.digits 8 (x % 2 ^ 64).toNat) w := by kernel_rfl
theorem ptrE (w : World) : (FmtStop.ptrTo "errors.errorString").run Tryf.prog w = .ok 60 w := by kernel_rfl
theorem elemE (w : World) : (elemOf 60).run Tryf.prog w = .ok 62 w := by kernel_rfl
attribute [local go_sem] call29 fguard op21 strict21 ptrE elemE
set_option maxHeartbeats 400000 in
theorem errorf_any (r : Int) (b : Nat) (w : World) (hc : w.cell? ⟨b, 0, none⟩ = some (.iface 21 (.int .i32 r))) :
    Calls Tryf.prog 27 #[.string fmtS, .slice (some ⟨b, 0, none⟩) 1 1] w fun e w' => (∃ v, e = .returned (.iface 60 v)) ∧ Below w.heap.size w w' := by
  have f0 := fmt0
  have f0r := fmt0r
  generalize fmtS = S at *
  go_enter Tryf.func27, Tryf.ntmps27
  go_wp2
  go_ret
  exact ⟨⟨_, rfl⟩, ((Below.refl _ _).alloc (Nat.le_refl _) _).drew⟩
/-- What charErr's cell holds: nil, or an error. -/
def errV (ref : Bool) (v : Value) : Prop := if ref then ∃ t x, v = .iface t x else v = .nilIface
/-- refuse writes charErr where it is nil, and nothing else that was there. -/
structure Refused (B : Nat) (w w' : World) : Prop where
  cell : ∀ o, o ≠ 23 → w'.cell? ⟨B, o, none⟩ = w.cell? ⟨B, o, none⟩
  err : ∃ t x, w'.cell? ⟨B, 23, none⟩ = some (.iface t x)
  free : ∀ o, w'.frozen? ⟨B, o, none⟩ = w.frozen? ⟨B, o, none⟩
  below : Below B w w'
theorem set_cell (w : World) (b i : Nat) (v u : Value) (h : w.cell? ⟨b, i, none⟩ = some u) (t : Nat) : (w.setCell ⟨b, i, none⟩ v).cell? ⟨b, t, none⟩ = if t = i then some v else w.cell? ⟨b, t, none⟩ := by
  by_cases e : t = i
  · subst e
    rw [if_pos rfl]
    exact World.cell?_setCell_same w _ v h
  · rw [if_neg e]
    exact World.cell?_setCell_other _ _ _ _ (fun h => e (Addr.mk.inj h).2.1.symm)
theorem below_cells {B n : Nat} {w w' : World} (h : Below n w w') (hB : B < n) : (∀ o, w'.cell? ⟨B, o, none⟩ = w.cell? ⟨B, o, none⟩) ∧ (∀ o, w'.frozen? ⟨B, o, none⟩ = w.frozen? ⟨B, o, none⟩) :=
  ⟨fun o => h.cell (p := ⟨B, o, none⟩) hB, fun o => h.frozen (p := ⟨B, o, none⟩) hB⟩
set_option maxHeartbeats 400000 in
theorem refuse_new (r : Int) (B : Nat) (w : World) (hB : B < w.heap.size) (hc : w.cell? ⟨B, 23, none⟩ = some .nilIface) (hf : w.frozen? ⟨B, 23, none⟩ = false) :
    Calls Tryf.prog 21 #[.pointer (some ⟨B, 0, none⟩), .int .i32 r] w fun e w' => e = .returned (.tuple #[]) ∧ Refused B w w' := by
  go_enter Tryf.func21, Tryf.ntmps21
  go_wp2_with fail
  refine (errorf_any r w.heap.size _ (by simp)).mono ?_
  rintro e w1 ⟨⟨v, rfl⟩, hb⟩
  have hbw : Below w.heap.size w w1 := ((Below.refl _ _).alloc (Nat.le_refl _) _).trans (hb.mono (by simp))
  obtain ⟨k1, k2⟩ := below_cells hbw hB
  have hc1 := (k1 23).trans hc
  have hf1 := (k2 23).trans hf
  have K1 : Hid _ := k1; clear k1
  have K2 : Hid _ := k2; clear k2
  have HB : Hid _ := hbw; clear hbw hb
  go_wp2_with fail
  go_end0
  refine ⟨rfl, ⟨fun o ho => ?_, ⟨60, v, ?_⟩, fun o => ?_, (HB.out.mono (Nat.le_of_lt hB)).setCell (Nat.le_refl _) _⟩⟩
  · rw [set_cell _ _ _ _ _ hc1, if_neg ho]; exact K1.out o
  · rw [set_cell _ _ _ _ _ hc1, if_pos rfl]
  · rw [World.frozen?_setCell]; exact K2.out o
set_option maxHeartbeats 400000 in
theorem refuse_old (r : Int) (B : Nat) (w : World) (t : TypeId) (x : Value) (hc : w.cell? ⟨B, 23, none⟩ = some (.iface t x)) :
    Calls Tryf.prog 21 #[.pointer (some ⟨B, 0, none⟩), .int .i32 r] w fun e w' => e = .returned (.tuple #[]) ∧ Refused B w w' := by
  go_enter Tryf.func21, Tryf.ntmps21
  go_wp2_with fail
  go_end0
  exact ⟨rfl, ⟨fun _ _ => rfl, ⟨t, x, hc⟩, fun _ => rfl, Below.refl _ _⟩⟩
theorem refuse_any (r : Int) (B : Nat) (w : World) (ref : Bool) (v : Value) (hB : B < w.heap.size) (hv : errV ref v) (hc : w.cell? ⟨B, 23, none⟩ = some v) (hf : w.frozen? ⟨B, 23, none⟩ = false) :
    Calls Tryf.prog 21 #[.pointer (some ⟨B, 0, none⟩), .int .i32 r] w fun e w' => e = .returned (.tuple #[]) ∧ Refused B w w' := by
  cases ref with
  | true =>
    obtain ⟨t, x, rfl⟩ : ∃ t x, v = .iface t x := hv
    exact refuse_old r B w t x hc
  | false =>
    obtain rfl : v = .nilIface := hv
    exact refuse_new r B w hB hc hf
/-- isUnreserved, isReserved, isSubDelim on an ASCII byte. -/
def subD (c : Nat) : Bool := decide (c = 33 ∨ c = 36 ∨ c = 38 ∨ c = 39 ∨ c = 40 ∨ c = 41 ∨ c = 42 ∨ c = 43 ∨ c = 44 ∨ c = 59 ∨ c = 61)
def resD (c : Nat) : Bool := decide (c = 58 ∨ c = 47 ∨ c = 63 ∨ c = 35 ∨ c = 91 ∨ c = 93 ∨ c = 64) || subD c
def unrD (c : Nat) : Bool := decide ((97 ≤ c ∧ c ≤ 122) ∨ (65 ≤ c ∧ c ≤ 90) ∨ (48 ≤ c ∧ c ≤ 57) ∨ c = 45 ∨ c = 46 ∨ c = 95 ∨ c = 126)
set_option maxRecDepth 100000 in
set_option maxHeartbeats 800000 in
theorem subDelim_any (c : Nat) (w : World) :
    Calls Tryf.prog 26 #[.int .i32 c] w fun e w' => e = .returned (.bool (subD c)) ∧ w' = w := by
  go_enter Tryf.func26, Tryf.ntmps26
  go_wp2
  all_goals
    go_ret
    refine ⟨ret_bool ?_, rfl⟩
    try simp only [beq_iff_eq, beq_eq_false_iff_ne, ne_eq] at *
    unfold subD
    first | exact (decide_eq_true (by omega)).symm | exact (decide_eq_false (by omega)).symm
set_option maxRecDepth 100000 in
set_option maxHeartbeats 800000 in
theorem reserved_any (c : Nat) (w : World) :
    Calls Tryf.prog 20 #[.int .i32 c] w fun e w' => e = .returned (.bool (resD c)) ∧ w' = w := by
  have HS := hide (subDelim_any c w)
  go_enter Tryf.func20, Tryf.ntmps20
  go_wp2_with (go_at_call 26; refine (unhide HS).mono ?_; rintro e w' ⟨rfl, rfl⟩)
  all_goals
    go_ret
    refine ⟨ret_bool ?_, rfl⟩
    try simp only [beq_iff_eq, beq_eq_false_iff_ne, ne_eq] at *
    unfold resD
    first | (rw [decide_eq_true (by omega)]; rfl) | (rw [decide_eq_false (by omega)]; rfl)
set_option maxRecDepth 100000 in
set_option maxHeartbeats 800000 in
theorem unreserved_any (c : Nat) (w : World) :
    Calls Tryf.prog 19 #[.int .i32 c] w fun e w' => e = .returned (.bool (unrD c)) ∧ w' = w := by
  go_enter Tryf.func19, Tryf.ntmps19
  go_wp2
  all_goals
    go_ret
    refine ⟨ret_bool ?_, rfl⟩
    try simp only [beq_iff_eq, beq_eq_false_iff_ne, ne_eq] at *
    unfold unrD
    first | exact (decide_eq_true (by omega)).symm | exact (decide_eq_false (by omega)).symm
end Go.Proofs.Qxb6614616aFmt
