/-
  FnIMSIRoundTrip.
-/
import Derived.Test.Qxb6003907aFmtLaid
namespace Go.Proofs.Qxb6003907aFmt
open Go.RowKit
set_option linter.unusedSimpArgs false
set_option maxRecDepth 100000 in
theorem zz17_any (ao : Option Addr) (n cap : Nat) (s : ByteArray) (w : World) (hn : (n : Int) + s.size ≤ 1048576) : Calls Tryf.prog 17 #[.slice ao n cap, .string s] w fun e w' => e = .returned (.bool true) ∧ w' = w := by
  go_enter Tryf.func17, Tryf.ntmps17
  go_wp2
  all_goals first | (exfalso; omega) | (go_ret; exact ⟨rfl, rfl⟩)
/-- A slice as a clone is: nil, or a row from its block's first cell on. -/
structure IsRow (ao : Option Addr) (n : Nat) (x : Nat → Nat) (w : World) : Prop where
  none_ : ao = none → n = 0
  some_ : ∀ a, ao = some a → ∃ b, a = ⟨b, 0, none⟩ ∧ b < w.heap.size ∧ Row b 0 n x w
theorem IsRow.on {ao : Option Addr} {n : Nat} {x : Nat → Nat} {w w' : World} (h : IsRow ao n x w) (hb : Below w.heap.size w w') : IsRow ao n x w' :=
  ⟨h.none_, fun a ha => by
    obtain ⟨b, e, hl, hr⟩ := h.some_ a ha
    exact ⟨b, e, Nat.lt_of_lt_of_le hl hb.size, fun j hj => (hb.cell (p := ⟨b, 0 + j, none⟩) hl).trans (hr j hj)⟩⟩
attribute [local go_sem] eqSome eqNil
set_option maxRecDepth 100000 in
set_option maxHeartbeats 2000000 in
theorem clone_zero (a : Addr) (cap : Nat) (w : World) :
    Calls Tryf.prog 9 #[.slice (some a) 0 cap] w fun e w' => e = .returned (.slice (some ⟨w.heap.size, 0, none⟩) 0 0) ∧ w.heap.size < w'.heap.size ∧ Below w.heap.size w w' := by
  obtain ⟨Z, hZ, hmk0⟩ := run_makeN 0 (by decide) w
  have hmk : (Instr.makeSlice 22 (.int .i64 0) (.int .i64 0)).run Tryf.prog w = .ok (.slice (some ⟨w.heap.size, 0, none⟩) 0 0) (w.alloc (.cells Z 5)) := hmk0
  clear hZ hmk0
  go_enter Tryf.func9, Tryf.ntmps9
  go_wp2_with fail
  all_goals try go_rounds 1
  all_goals
    go_ret
    exact ⟨rfl, by simp, (Below.refl _ _).alloc (Nat.le_refl _) _⟩
theorem clone_gen (ao : Option Addr) (n cap : Nat) (x : Nat → Nat) (w : World) (hn : (n : Int) ≤ 1048576) (h0 : ao = none → n = 0 ∧ cap = 0) (hr : ∀ a, ao = some a → 1 ≤ n → ∃ b off, a = ⟨b, off, none⟩ ∧ b < w.heap.size ∧ Row b off n x w) :
    Calls Tryf.prog 9 #[.slice ao n cap] w fun e w' => (∃ ao', e = .returned (.slice ao' n n) ∧ IsRow ao' n x w' ∧ ∀ a, ao' = some a → w.heap.size ≤ a.block) ∧ Below w.heap.size w w' := by
  cases ao with
  | none =>
    obtain ⟨rfl, rfl⟩ := h0 rfl
    exact (clone_nil w).mono fun e w' ⟨he, hw⟩ => ⟨⟨none, he, ⟨fun _ => rfl, nofun⟩, nofun⟩, hw ▸ Below.refl _ _⟩
  | some a =>
    by_cases hz : n = 0
    · subst hz
      exact (clone_zero a cap w).mono fun e w' ⟨he, hs, hb⟩ => ⟨⟨some ⟨w.heap.size, 0, none⟩, he, ⟨nofun, fun a' ha => ⟨w.heap.size, (Option.some.inj ha).symm, hs, fun j hj => absurd hj (Nat.not_lt_zero j)⟩⟩, fun a' ha => by cases ha; exact Nat.le_refl _⟩, hb⟩
    · obtain ⟨b, off, rfl, hb, hrow⟩ := hr a rfl (by omega)
      exact (clone_any b off n cap x w hb hn hrow).mono fun e w' ⟨he, hrow', hs, hb'⟩ => ⟨⟨some ⟨w.heap.size, 0, none⟩, he, ⟨nofun, fun a' ha => ⟨w.heap.size, (Option.some.inj ha).symm, hs, hrow'⟩⟩, fun a' ha => by cases ha; exact Nat.le_refl _⟩, hb'⟩
set_option maxRecDepth 100000 in
set_option maxHeartbeats 2000000 in
theorem same_zero (ao1 ao2 : Option Addr) (c1 c2 : Nat) (w : World) :
    Calls Tryf.prog 14 #[.slice ao1 0 c1, .slice ao2 0 c2] w fun e w' => e = .returned (.bool true) ∧ ∃ k, w' = w.drewN k := by
  go_enter Tryf.func14, Tryf.ntmps14
  go_wp2_with fail
  all_goals try go_rounds 1
  all_goals
    go_ret
    exact ⟨rfl, 0, rfl⟩
theorem same_gen (ao1 ao2 : Option Addr) (n c1 c2 : Nat) (x : Nat → Nat) (w : World) (hn : (n : Int) ≤ 2097152) (h1 : IsRow ao1 n x w) (h2 : IsRow ao2 n x w) :
    Calls Tryf.prog 14 #[.slice ao1 n c1, .slice ao2 n c2] w fun e w' => e = .returned (.bool true) ∧ ∃ k, w' = w.drewN k := by
  by_cases hz : n = 0
  · subst hz; exact same_zero ao1 ao2 c1 c2 w
  · cases ao1 with
    | none => exact absurd (h1.none_ rfl) hz
    | some a1 =>
      cases ao2 with
      | none => exact absurd (h2.none_ rfl) hz
      | some a2 =>
        obtain ⟨b1, rfl, _, r1⟩ := h1.some_ a1 rfl
        obtain ⟨b2, rfl, _, r2⟩ := h2.some_ a2 rfl
        exact same_any b1 0 c1 b2 0 c2 n n x x w hn hn r1 r2 (fun _ _ _ => rfl) rfl
end Go.Proofs.Qxb6003907aFmt
