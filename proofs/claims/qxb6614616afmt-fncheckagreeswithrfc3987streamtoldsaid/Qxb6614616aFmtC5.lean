/-
  iriB1Utf8Step: three bytes, the rest
-/
import Derived.Test.Qxb6614616aFmtC4
namespace Go.Proofs.Qxb6614616aFmt
open Go.RowKit Go.Lib
set_option linter.unusedSimpArgs false
set_option maxRecDepth 100000 in
set_option maxHeartbeats 8000000 in
theorem step_EE (n b0 b1 b2 b3 : Nat) (w : World) (hn : n = 1 ∨ n = 2 ∨ n = 3) (hb : 238 ≤ b0 ∧ b0 ≤ 239) (l1 : b1 < 256) (l2 : b2 < 256) :
    Calls Tryf.prog 16 #[.agg #[.int .u8 b0, .int .u8 b1, .int .u8 b2, .int .u8 b3], .int .i64 n] w fun e w' => e = .returned (.tuple #[.int .i64 (stepN n b0 b1 b2 b3 3 128 191).1, .int .i32 (stepN n b0 b1 b2 b3 3 128 191).2]) ∧ Below w.heap.size w w' := by
  obtain ⟨h1, h2⟩ := hb
  rcases hn with rfl | rfl | rfl
  all_goals
    go_enter Tryf.func16, Tryf.ntmps16
    go_wp2
    all_goals try go_rounds 5
    all_goals try go_rounds 5
    all_goals
      go_ret2
      refine ⟨ret_step ?_, (Below.refl _ _).alloc (Nat.le_refl _) _⟩
      unfold stepN runeN
      repeat' split
      all_goals first | (exfalso; omega) | exact ⟨rfl, rfl⟩ | (refine ⟨rfl, ?_⟩; omega)
set_option maxRecDepth 100000 in
set_option maxHeartbeats 8000000 in
theorem step_ED (n b0 b1 b2 b3 : Nat) (w : World) (hn : n = 1 ∨ n = 2 ∨ n = 3) (hb : 237 ≤ b0 ∧ b0 ≤ 237) (l1 : b1 < 256) (l2 : b2 < 256) :
    Calls Tryf.prog 16 #[.agg #[.int .u8 b0, .int .u8 b1, .int .u8 b2, .int .u8 b3], .int .i64 n] w fun e w' => e = .returned (.tuple #[.int .i64 (stepN n b0 b1 b2 b3 3 128 159).1, .int .i32 (stepN n b0 b1 b2 b3 3 128 159).2]) ∧ Below w.heap.size w w' := by
  obtain ⟨h1, h2⟩ := hb
  rcases hn with rfl | rfl | rfl
  all_goals
    go_enter Tryf.func16, Tryf.ntmps16
    go_wp2
    all_goals try go_rounds 5
    all_goals try go_rounds 5
    all_goals
      go_ret2
      refine ⟨ret_step ?_, (Below.refl _ _).alloc (Nat.le_refl _) _⟩
      unfold stepN runeN
      repeat' split
      all_goals first | (exfalso; omega) | exact ⟨rfl, rfl⟩ | (refine ⟨rfl, ?_⟩; omega)
end Go.Proofs.Qxb6614616aFmt
