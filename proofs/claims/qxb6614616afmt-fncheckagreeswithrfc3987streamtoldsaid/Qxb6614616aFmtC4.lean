/-
  iriB1Utf8Step: the first k bytes of p.
-/
import Derived.Test.Qxb6614616aFmtC1
namespace Go.Proofs.Qxb6614616aFmt
open Go.RowKit Go.Lib
set_option linter.unusedSimpArgs false
def runeN (sz b0 b1 b2 b3 : Nat) : Nat :=
  if sz = 2 then b0 % 32 * 64 + b1 % 64 else if sz = 3 then b0 % 16 * 4096 + b1 % 64 * 64 + b2 % 64 else b0 % 8 * 262144 + b1 % 64 * 4096 + b2 % 64 * 64 + b3 % 64
def stepN (n b0 b1 b2 b3 sz lo hi : Nat) : Nat × Nat :=
  if 2 ≤ n ∧ (b1 < lo ∨ hi < b1) then (2, 0) else if 3 ≤ n ∧ (b2 < 128 ∨ 191 < b2) then (2, 0) else if 4 ≤ n ∧ (b3 < 128 ∨ 191 < b3) then (2, 0)
  else if n < sz then (0, 0) else (1, runeN sz b0 b1 b2 b3)
theorem ret_step {a b : Int} {x : Nat × Nat} (h1 : x.1 = a ∧ x.2 = b) : Ending.returned (.tuple #[.int .i64 a, .int .i32 b]) = Ending.returned (.tuple #[.int .i64 x.1, .int .i32 x.2]) := by rw [h1.1, h1.2]
set_option maxRecDepth 100000 in
set_option maxHeartbeats 4000000 in
theorem step_bad (n b0 b1 b2 b3 : Nat) (w : World) (hb : (128 ≤ b0 ∧ b0 ≤ 193) ∨ (245 ≤ b0 ∧ b0 ≤ 255)) :
    Calls Tryf.prog 16 #[.agg #[.int .u8 b0, .int .u8 b1, .int .u8 b2, .int .u8 b3], .int .i64 n] w fun e w' => e = .returned (.tuple #[.int .i64 (2 : Nat), .int .i32 (0 : Nat)]) ∧ Below w.heap.size w w' := by
  rcases hb with ⟨h1, h2⟩ | ⟨h1, h2⟩
  all_goals
    go_enter Tryf.func16, Tryf.ntmps16
    go_wp2
    go_ret2
    exact ⟨rfl, (Below.refl _ _).alloc (Nat.le_refl _) _⟩
set_option maxRecDepth 100000 in
set_option maxHeartbeats 8000000 in
theorem step_C2 (n b0 b1 b2 b3 : Nat) (w : World) (hn : n = 1 ∨ n = 2) (hb : 194 ≤ b0 ∧ b0 ≤ 223) (l1 : b1 < 256) :
    Calls Tryf.prog 16 #[.agg #[.int .u8 b0, .int .u8 b1, .int .u8 b2, .int .u8 b3], .int .i64 n] w fun e w' => e = .returned (.tuple #[.int .i64 (stepN n b0 b1 b2 b3 2 128 191).1, .int .i32 (stepN n b0 b1 b2 b3 2 128 191).2]) ∧ Below w.heap.size w w' := by
  obtain ⟨h1, h2⟩ := hb
  rcases hn with rfl | rfl
  all_goals
    go_enter Tryf.func16, Tryf.ntmps16
    go_wp2
    all_goals try go_rounds 5
    all_goals try go_rounds 5
    all_goals
      go_ret2
      refine ⟨ret_step ?_, (Below.refl _ _).alloc (Nat.le_refl _) _⟩
      unfold stepN runeN
      repeat' split
      all_goals first | (exfalso; omega) | exact ⟨rfl, rfl⟩ | (refine ⟨rfl, ?_⟩; omega)
set_option maxRecDepth 100000 in
set_option maxHeartbeats 8000000 in
theorem step_E0 (n b0 b1 b2 b3 : Nat) (w : World) (hn : n = 1 ∨ n = 2 ∨ n = 3) (hb : 224 ≤ b0 ∧ b0 ≤ 224) (l1 : b1 < 256) (l2 : b2 < 256) :
    Calls Tryf.prog 16 #[.agg #[.int .u8 b0, .int .u8 b1, .int .u8 b2, .int .u8 b3], .int .i64 n] w fun e w' => e = .returned (.tuple #[.int .i64 (stepN n b0 b1 b2 b3 3 160 191).1, .int .i32 (stepN n b0 b1 b2 b3 3 160 191).2]) ∧ Below w.heap.size w w' := by
  obtain ⟨h1, h2⟩ := hb
  rcases hn with rfl | rfl | rfl
  all_goals
    go_enter Tryf.func16, Tryf.ntmps16
    go_wp2
    all_goals try go_rounds 5
    all_goals try go_rounds 5
    all_goals
      go_ret2
      refine ⟨ret_step ?_, (Below.refl _ _).alloc (Nat.le_refl _) _⟩
      unfold stepN runeN
      repeat' split
      all_goals first | (exfalso; omega) | exact ⟨rfl, rfl⟩ | (refine ⟨rfl, ?_⟩; omega)
set_option maxRecDepth 100000 in
set_option maxHeartbeats 8000000 in
theorem step_E1 (n b0 b1 b2 b3 : Nat) (w : World) (hn : n = 1 ∨ n = 2 ∨ n = 3) (hb : 225 ≤ b0 ∧ b0 ≤ 236) (l1 : b1 < 256) (l2 : b2 < 256) :
    Calls Tryf.prog 16 #[.agg #[.int .u8 b0, .int .u8 b1, .int .u8 b2, .int .u8 b3], .int .i64 n] w fun e w' => e = .returned (.tuple #[.int .i64 (stepN n b0 b1 b2 b3 3 128 191).1, .int .i32 (stepN n b0 b1 b2 b3 3 128 191).2]) ∧ Below w.heap.size w w' := by
  obtain ⟨h1, h2⟩ := hb
  rcases hn with rfl | rfl | rfl
  all_goals
    go_enter Tryf.func16, Tryf.ntmps16
    go_wp2
    all_goals try go_rounds 5
    all_goals try go_rounds 5
    all_goals
      go_ret2
      refine ⟨ret_step ?_, (Below.refl _ _).alloc (Nat.le_refl _) _⟩
      unfold stepN runeN
      repeat' split
      all_goals first | (exfalso; omega) | exact ⟨rfl, rfl⟩ | (refine ⟨rfl, ?_⟩; omega)
end Go.Proofs.Qxb6614616aFmt
