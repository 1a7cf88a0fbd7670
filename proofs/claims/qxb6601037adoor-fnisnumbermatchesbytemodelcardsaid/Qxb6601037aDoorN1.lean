/-
  FnIsNumberMatchesByteModel: the byte model, walked.
-/
import Derived.Test.Qxb6601037aDoorRows
import Derived.WalkKit
import Derived.WalkSpells
import Derived.WalkLawsBesides
import Derived.Deep.QuietTactic
import Derived.BigQuiet
import Derived.Handy
namespace Go.Proofs.Qxb6601037aDoor
open Go.RowKit
set_option linter.unusedSimpArgs false
theorem hide {p : Prop} (h : p) : Hid p := h
theorem unhide {p : Prop} (h : Hid p) : p := h
theorem ret_bool {a b : Bool} (h : a = b) : Ending.returned (.bool a) = .returned (.bool b) := by rw [h]
def decB (n : Nat) : Bool := decide (48 ≤ n ∧ n ≤ 57)
def hexB (n : Nat) : Bool := decide ((48 ≤ n ∧ n ≤ 57) ∨ (97 ≤ n ∧ n ≤ 102) ∨ (65 ≤ n ∧ n ≤ 70))
theorem dec_any (n : Nat) (w : World) : Calls Tryd.prog 14 #[.int .u8 n] w fun e w' => e = .returned (.bool (decB n)) ∧ w' = w := by
  rcases (by omega : (n : Int) < 48 ∨ (48 ≤ (n : Int) ∧ (n : Int) ≤ 57) ∨ 57 < (n : Int)) with h | h | h
  · have e : decB n = false := by unfold decB; simp; omega
    rw [e]
    go_enter Tryd.func14, Tryd.ntmps14
    go_wp2
    all_goals first | (exfalso; omega) | (go_ret; exact ⟨ret_bool (by first | rfl | (simp; done) | (simp; omega)), rfl⟩)
  · obtain ⟨h1, h2⟩ := h
    have e : decB n = true := by unfold decB; simp; omega
    rw [e]
    go_enter Tryd.func14, Tryd.ntmps14
    go_wp2
    all_goals first | (exfalso; omega) | (go_ret; exact ⟨ret_bool (by first | rfl | (simp; done) | (simp; omega)), rfl⟩)
  · have e : decB n = false := by unfold decB; simp; omega
    rw [e]
    go_enter Tryd.func14, Tryd.ntmps14
    go_wp2
    all_goals first | (exfalso; omega) | (go_ret; exact ⟨ret_bool (by first | rfl | (simp; done) | (simp; omega)), rfl⟩)
theorem hex_any (n : Nat) (w : World) : Calls Tryd.prog 13 #[.int .u8 n] w fun e w' => e = .returned (.bool (hexB n)) ∧ w' = w := by
  have HD := hide (dec_any n w)
  rcases (by omega : (n : Int) < 48 ∨ (48 ≤ (n : Int) ∧ (n : Int) ≤ 57) ∨ (57 < (n : Int) ∧ (n : Int) < 65) ∨ (65 ≤ (n : Int) ∧ (n : Int) ≤ 70) ∨ (70 < (n : Int) ∧ (n : Int) < 97) ∨ (97 ≤ (n : Int) ∧ (n : Int) ≤ 102) ∨ 102 < (n : Int)) with h | h | h | h | h | h | h
  all_goals (
    have ed : (decB n = true ∧ 48 ≤ n ∧ n ≤ 57) ∨ (decB n = false ∧ ¬ (48 ≤ n ∧ n ≤ 57)) := by
      unfold decB; simp; omega
    obtain ⟨d, hd⟩ : ∃ d, decB n = d := ⟨_, rfl⟩
    obtain ⟨hx, hhx⟩ : ∃ d, hexB n = d := ⟨_, rfl⟩
    rw [hd] at HD ed
    rw [hhx]
    have eh : (hx = true ↔ ((48 ≤ n ∧ n ≤ 57) ∨ (97 ≤ n ∧ n ≤ 102) ∨ (65 ≤ n ∧ n ≤ 70))) := by rw [← hhx]; unfold hexB; simp
    clear hd hhx
    cases d <;> cases hx <;> simp at ed eh <;> first | (exfalso; omega) | skip
    all_goals (
      go_enter Tryd.func13, Tryd.ntmps13
      go_wp2_with fail
      refine (unhide HD).mono ?_
      rintro e w' ⟨rfl, rfl⟩
      go_wp2_with fail
      all_goals first | (exfalso; omega) | (go_ret; exact ⟨ret_bool (by first | rfl | (simp; done) | (simp; omega)), rfl⟩) | (go_ret; exact ⟨rfl, rfl⟩)))
end Go.Proofs.Qxb6601037aDoor
