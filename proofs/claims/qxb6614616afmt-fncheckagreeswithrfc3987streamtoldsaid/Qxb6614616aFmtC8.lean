/-
  iriB1Utf8Step as one law; and it says what FullRune and DecodeRune say.
-/
import Derived.Test.Qxb6614616aFmtC2
import Derived.Test.Qxb6614616aFmtC3
import Derived.Test.Qxb6614616aFmtC5
import Derived.Test.Qxb6614616aFmtC6
import Derived.Test.Qxb6614616aFmtC7
import Derived.Lib.DecodeNEq
namespace Go.Proofs.Qxb6614616aFmt
open Go.RowKit Go.Lib
set_option linter.unusedSimpArgs false
/-- What the n bytes gathered are: 0 a beginning, 1 a character and which, 2 neither. -/
def scanN (n b0 b1 b2 b3 : Nat) : Nat × Nat :=
  if firstT b0 = 241 then (2, 0) else stepN n b0 b1 b2 b3 (firstT b0 % 8) (accLo (firstT b0 / 16)) (accHi (firstT b0 / 16))
theorem lead_cases (b0 : Nat) (h0 : 128 ≤ b0) (h1 : b0 ≤ 255) : firstT b0 = 241 ∨ (firstT b0 < 240 ∧ 2 ≤ firstT b0 % 8 ∧ firstT b0 % 8 ≤ 4) := by
  unfold firstT
  repeat' split
  all_goals omega
theorem scan_zero (n b0 b1 b2 b3 : Nat) (h0 : 128 ≤ b0) (h1 : b0 ≤ 255) (hn : 1 ≤ n) (hf : n ≤ firstT b0 % 8) : fullN n b0 b1 b2 = decide ((scanN n b0 b1 b2 b3).1 ≠ 0) := by
  unfold fullN scanN
  rcases lead_cases b0 h0 h1 with h | ⟨ha, hb, hc⟩
  · rw [if_pos h, h]; simp; omega
  · rw [if_neg (by omega)]
    unfold stepN
    apply decide_eq_decide.2
    generalize firstT b0 % 8 = sz at *
    generalize accLo (firstT b0 / 16) = lo at *
    generalize accHi (firstT b0 / 16) = hi at *
    repeat' split
    all_goals simp
    all_goals omega
theorem scan_dec (n b0 b1 b2 b3 : Nat) (h0 : 128 ≤ b0) (h1 : b0 ≤ 255) (l1 : b1 < 256) (l2 : b2 < 256) (l3 : b3 < 256) (hn : 1 ≤ n) (hf : n ≤ firstT b0 % 8) (hz : (scanN n b0 b1 b2 b3).1 ≠ 0) :
    ((scanN n b0 b1 b2 b3).1 = 2 ∧ decodeN n b0 b1 b2 b3 = (65533, 1)) ∨ ((scanN n b0 b1 b2 b3).1 = 1 ∧ decodeN n b0 b1 b2 b3 = ((scanN n b0 b1 b2 b3).2, n) ∧ 2 ≤ n ∧ (scanN n b0 b1 b2 b3).2 ≤ 1114111) := by
  rcases lead_cases b0 h0 h1 with h | ⟨ha, hb, hc⟩
  · left
    refine ⟨by unfold scanN; rw [if_pos h], bad_eq _ _ _ _ _ (by omega) h⟩
  · have hd := slow_eq n b0 b1 b2 b3 hn l1 l2 l3 ha
    rw [← hd]
    have hlim : firstT b0 % 8 = 4 → b0 = 244 → accHi (firstT b0 / 16) = 143 ∧ accLo (firstT b0 / 16) = 128 := fun _ h => by subst h; exact ⟨rfl, rfl⟩
    have hlim2 : firstT b0 % 8 = 4 → 240 ≤ b0 ∧ b0 ≤ 244 := by
      intro h
      unfold firstT at h
      repeat' split at h
      all_goals omega
    unfold scanN at hz ⊢
    rw [if_neg (by omega)] at hz ⊢
    unfold stepN at hz ⊢
    unfold slowN
    generalize firstT b0 % 8 = sz at *
    generalize accLo (firstT b0 / 16) = lo at *
    generalize accHi (firstT b0 / 16) = hi at *
    clear hd ha
    by_cases c1 : 2 ≤ n ∧ (b1 < lo ∨ hi < b1)
    · left
      rw [if_pos c1]
      refine ⟨rfl, ?_⟩
      by_cases hs : n < sz
      · rw [if_pos hs]
      · rw [if_neg hs, if_pos c1.2]
    · rw [if_neg c1] at hz ⊢
      by_cases c2 : 3 ≤ n ∧ (b2 < 128 ∨ 191 < b2)
      · left
        rw [if_pos c2]
        refine ⟨rfl, ?_⟩
        by_cases hs : n < sz
        · rw [if_pos hs]
        · rw [if_neg hs, if_neg (by omega), if_neg (by omega), if_pos c2.2]
      · rw [if_neg c2] at hz ⊢
        by_cases c3 : 4 ≤ n ∧ (b3 < 128 ∨ 191 < b3)
        · left
          rw [if_pos c3]
          refine ⟨rfl, ?_⟩
          by_cases hs : n < sz
          · rw [if_pos hs]
          · rw [if_neg hs, if_neg (by omega), if_neg (by omega), if_neg (by omega), if_neg (by omega), if_pos c3.2]
        · rw [if_neg c3] at hz ⊢
          by_cases hs : n < sz
          · rw [if_pos hs] at hz
            exact absurd rfl hz
          · rw [if_neg hs] at hz ⊢
            rw [if_neg hs, if_neg (by omega)]
            right
            obtain rfl : n = sz := by omega
            rcases (by omega : n = 2 ∨ n = 3 ∨ n = 4) with rfl | rfl | rfl
            · refine ⟨rfl, rfl, by omega, ?_⟩
              unfold runeN
              rw [if_pos rfl]
              show _ ≤ _
              omega
            · rw [if_neg (by omega), if_neg (by omega)]
              refine ⟨rfl, rfl, by omega, ?_⟩
              unfold runeN
              rw [if_neg (by omega), if_pos rfl]
              show _ ≤ _
              omega
            · rw [if_neg (by omega), if_neg (by omega), if_neg (by omega), if_neg (by omega)]
              refine ⟨rfl, rfl, by omega, ?_⟩
              have h5 := hlim2 rfl
              have h6 := hlim rfl
              unfold runeN
              rw [if_neg (by omega), if_neg (by omega)]
              show _ ≤ _
              omega
theorem step_any (n b0 b1 b2 b3 : Nat) (w : World) (h0 : 128 ≤ b0) (h1 : b0 ≤ 255) (l1 : b1 < 256) (l2 : b2 < 256) (l3 : b3 < 256) (hn : 1 ≤ n) (hf : n ≤ firstT b0 % 8) :
    Calls Tryf.prog 16 #[.agg #[.int .u8 b0, .int .u8 b1, .int .u8 b2, .int .u8 b3], .int .i64 n] w fun e w' => e = .returned (.tuple #[.int .i64 (scanN n b0 b1 b2 b3).1, .int .i32 (scanN n b0 b1 b2 b3).2]) ∧ Below w.heap.size w w' := by
  unfold scanN
  rcases (by omega : ((128 ≤ b0 ∧ b0 ≤ 193) ∨ (245 ≤ b0 ∧ b0 ≤ 255)) ∨ (194 ≤ b0 ∧ b0 ≤ 223) ∨ (224 ≤ b0 ∧ b0 ≤ 224) ∨ (225 ≤ b0 ∧ b0 ≤ 236) ∨ (238 ≤ b0 ∧ b0 ≤ 239) ∨ (237 ≤ b0 ∧ b0 ≤ 237) ∨ (240 ≤ b0 ∧ b0 ≤ 240) ∨ (241 ≤ b0 ∧ b0 ≤ 243) ∨ (244 ≤ b0 ∧ b0 ≤ 244)) with hb | hb | hb | hb | hb | hb | hb | hb | hb
  · have hX : firstT b0 = 241 := by
      unfold firstT
      repeat' split
      all_goals omega
    rw [if_pos hX]
    exact step_bad n b0 b1 b2 b3 w hb
  · have hX := firstT_C2 (b := b0) (by omega)
    rw [hX] at hf ⊢
    exact step_C2 n b0 b1 b2 b3 w (by omega) hb l1
  · have hX := firstT_E0 (b := b0) (by omega)
    rw [hX] at hf ⊢
    exact step_E0 n b0 b1 b2 b3 w (by omega) hb l1 l2
  · have hX := firstT_E1 (b := b0) (by omega)
    rw [hX] at hf ⊢
    exact step_E1 n b0 b1 b2 b3 w (by omega) hb l1 l2
  · have hX := firstT_E1 (b := b0) (by omega)
    rw [hX] at hf ⊢
    exact step_EE n b0 b1 b2 b3 w (by omega) hb l1 l2
  · have hX := firstT_ED (b := b0) (by omega)
    rw [hX] at hf ⊢
    exact step_ED n b0 b1 b2 b3 w (by omega) hb l1 l2
  · have hX := firstT_F0 (b := b0) (by omega)
    rw [hX] at hf ⊢
    exact step_F0 n b0 b1 b2 b3 w (by omega) hb l1 l2 l3
  · have hX := firstT_F1 (b := b0) (by omega)
    rw [hX] at hf ⊢
    exact step_F1 n b0 b1 b2 b3 w (by omega) hb l1 l2 l3
  · have hX := firstT_F4 (b := b0) (by omega)
    rw [hX] at hf ⊢
    exact step_F4 n b0 b1 b2 b3 w (by omega) hb l1 l2 l3
end Go.Proofs.Qxb6614616aFmt
