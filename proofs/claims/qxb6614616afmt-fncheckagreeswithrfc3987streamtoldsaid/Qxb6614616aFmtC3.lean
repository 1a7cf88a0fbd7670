/-
  utf8.FullRune on the raw bytes of a normal.
-/
import Derived.Test.Qxb6614616aFmtC1
namespace Go.Proofs.Qxb6614616aFmt
open Go.RowKit Go.Lib
set_option linter.unusedSimpArgs false
def fullN (n b0 b1 b2 : Nat) : Bool := decide (firstT b0 % 8 ≤ n ∨ (2 ≤ n ∧ (b1 < accLo (firstT b0 / 16) ∨ accHi (firstT b0 / 16) < b1)) ∨ (3 ≤ n ∧ (b2 < 128 ∨ 191 < b2)))
theorem below_drewN {n : Nat} {w w' : World} (h : Below n w w') (k : Nat) : Below n w (w'.drewN k) := by
  induction k with
  | zero => exact h
  | succ k ih => exact ih.drew
set_option maxRecDepth 100000 in
set_option maxHeartbeats 4000000 in
theorem full_any (n b0 b1 b2 cap B : Nat) (w : World) (hT : Lib.Utf8Tabs 0 1 w) (hn : 1 ≤ n) (l0 : b0 < 256) (l2 : b2 < 256) (hB : B < w.heap.size)
    (c0 : w.cell? ⟨B, 16, none⟩ = some (.int .u8 b0)) (c1 : w.cell? ⟨B, 17, none⟩ = some (.int .u8 b1)) (c2 : w.cell? ⟨B, 18, none⟩ = some (.int .u8 b2)) :
    Calls Tryf.prog 22 #[.slice (some ⟨B, 16, none⟩) n cap] w fun e w' => e = .returned (.bool (fullN n b0 b1 b2)) ∧ Below w.heap.size w w' := by
  have hc0 := hT.1 b0 l0
  obtain ⟨sz, i, X, hX, hsz, hi16, hXl, hXi⟩ : ∃ sz i X, firstT b0 = X ∧ X % 8 = sz ∧ i < 16 ∧ X < 256 ∧ X / 16 = i := ⟨_, _, _, rfl, rfl, by rcases firstT_cases b0 with h | h | h | h | h | h | h | h | h <;> omega, by rcases firstT_cases b0 with h | h | h | h | h | h | h | h | h <;> omega, rfl⟩
  have ha0 := (hT.2 i hi16).1
  have ha1 := (hT.2 i hi16).2
  obtain ⟨lo, hlo⟩ : ∃ lo, accLo i = lo := ⟨_, rfl⟩
  obtain ⟨hi, hhi⟩ : ∃ hi, accHi i = hi := ⟨_, rfl⟩
  rw [hX] at hc0
  rw [hlo, Nat.mul_comm 2 i] at ha0
  rw [hhi, Nat.mul_comm 2 i] at ha1
  have hQ : fullN n b0 b1 b2 = decide (sz ≤ n ∨ (2 ≤ n ∧ (b1 < lo ∨ hi < b1)) ∨ (3 ≤ n ∧ (b2 < 128 ∨ 191 < b2))) := by
    unfold fullN; rw [hX, hXi, hlo, hhi, hsz]
  rw [hQ]
  have hand : bits .and .u8 (X : Int) 7 = (sz : Int) := by
    have := bits_mask .u8 8 (by decide) wraps_u8 3 (by decide) (X : Int) (by omega) (by omega)
    rw [show ((2 : Int) ^ 3 - 1) = 7 from rfl, show ((2 : Int) ^ 3) = 8 from rfl] at this
    rw [this]; omega
  have hsh : Op.shift .shr .u8 (X : Int) .u64 4 = pure (.int .u8 (i : Int)) := by
    rw [shift_shr .u8 .u64 (X : Int) 4 (by decide) (by decide)]
    congr 2
    show (X : Int) / 2 ^ 4 = i
    omega
  have hsz7 : (sz : Int) ≤ 7 := by omega
  clear hQ hX hXl hXi hsz hlo hhi hT
  by_cases hle : (sz : Int) ≤ n
  · go_enter Tryf.func22, Tryf.ntmps22
    go_wp2
    go_ret
    exact ⟨ret_bool (decide_eq_true (by omega)).symm, Below.refl _ _⟩
  · by_cases hn1 : n = 1
    · subst hn1
      go_enter Tryf.func22, Tryf.ntmps22
      go_wp2
      all_goals (go_quiet (fail); go_wp2)
      all_goals
        go_ret
        refine ⟨ret_bool (decide_eq_false (by omega)).symm, ?_⟩
        exact below_drewN ((Below.refl _ _).alloc (Nat.le_refl _) _) _
    · have hn2 : (1 : Int) < n := by omega
      rcases (by omega : b1 < lo ∨ (¬ b1 < lo ∧ hi < b1) ∨ (¬ b1 < lo ∧ ¬ hi < b1)) with hb | ⟨hb, hb'⟩ | ⟨hb, hb'⟩
      · go_enter Tryf.func22, Tryf.ntmps22
        go_wp2
        all_goals (go_quiet (fail); go_wp2)
        all_goals
          go_ret
          refine ⟨ret_bool (decide_eq_true (by omega)).symm, ?_⟩
          exact below_drewN ((Below.refl _ _).alloc (Nat.le_refl _) _) _
      · go_enter Tryf.func22, Tryf.ntmps22
        go_wp2
        all_goals (go_quiet (fail); go_wp2)
        all_goals
          go_ret
          refine ⟨ret_bool (decide_eq_true (by omega)).symm, ?_⟩
          exact below_drewN ((Below.refl _ _).alloc (Nat.le_refl _) _) _
      · by_cases hn3 : n = 2
        · subst hn3
          go_enter Tryf.func22, Tryf.ntmps22
          go_wp2
          all_goals (go_quiet (fail); go_wp2)
          all_goals
            go_ret
            refine ⟨ret_bool (decide_eq_false (by omega)).symm, ?_⟩
            exact below_drewN ((Below.refl _ _).alloc (Nat.le_refl _) _) _
        · have hn3' : (2 : Int) < n := by omega
          go_enter Tryf.func22, Tryf.ntmps22
          go_wp2
          all_goals (go_quiet (fail); go_wp2)
          all_goals
            go_ret
            refine ⟨ret_bool ?_, below_drewN ((Below.refl _ _).alloc (Nat.le_refl _) _) _⟩
            first | exact (decide_eq_true (by omega)).symm | exact (decide_eq_false (by omega)).symm | (symm; simp only [Bool.or_eq_true, Bool.and_eq_true, decide_eq_true_eq]; omega)
end Go.Proofs.Qxb6614616aFmt
