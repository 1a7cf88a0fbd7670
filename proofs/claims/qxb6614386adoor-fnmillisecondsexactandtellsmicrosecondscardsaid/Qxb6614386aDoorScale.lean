/-
  The plain arithmetic of internal/strconv's unrounded scaling, at 10^3 and 10^4: it gives us back.
-/
import GoSem.Core.Float
namespace Go.Proofs.Qxb6614386aDoor.Ms

def b2n (b : Bool) : Nat := if b then 1 else 0
def rnd (u : Nat) : Nat := (u + 1 + u / 4 % 2) / 4
def div10 (u : Nat) : Nat := (u / 10 ||| u % 2) ||| b2n (u % 10 != 0)
def usc (hi s : Nat) : Nat := hi / 2 ^ s ||| b2n (hi % 2 ^ s != 0)

theorem or_one (x : Nat) : x ||| 1 = x - x % 2 + 1 := by
  have h1 : x ||| 1 = 2 * (x / 2) + 1 := by
    apply Nat.eq_of_testBit_eq
    intro i
    rw [Nat.testBit_or]
    cases i with
    | zero => simp
    | succ i =>
      rw [Nat.testBit_succ, Nat.testBit_succ 1, Nat.testBit_succ (2 * (x / 2) + 1)]
      have : (2 * (x / 2) + 1) / 2 = x / 2 := by omega
      rw [this]
      simp
  omega
theorem or_zero (x : Nat) : x ||| 0 = x := Nat.or_zero x
theorem or_b2n (x : Nat) (b : Bool) : x ||| b2n b = if b then x - x % 2 + 1 else x := by
  cases b
  · exact or_zero x
  · exact or_one x

theorem rnd_near (u us : Nat) (h1 : 1 ≤ us) (h : u = 4 * us - 1 ∨ u = 4 * us ∨ u = 4 * us + 1) : rnd u = us := by
  unfold rnd
  rcases h with rfl | rfl | rfl <;> omega

theorem div_bounds (x V : Nat) (hV : 0 < V) : V * (x / V) + x % V = x ∧ x % V < V := ⟨Nat.div_add_mod x V, Nat.mod_lt _ hV⟩

theorem usc3 (M us k : Nat) (h1 : 1 ≤ us) (hk : 10 ≤ k) (b0 : 1000 * M ≤ us * 2 ^ k + 500) (b1 : us * 2 ^ k ≤ 1000 * M + 500) :
    usc (2000 * M) (k - 1) = 4 * us - 1 ∨ usc (2000 * M) (k - 1) = 4 * us ∨ usc (2000 * M) (k - 1) = 4 * us + 1 := by
  have hV : 512 ≤ 2 ^ (k - 1) := by
    have : 2 ^ 9 ≤ 2 ^ (k - 1) := Nat.pow_le_pow_right (by decide) (by omega)
    omega
  have e : us * 2 ^ k = us * 2 ^ (k - 1) * 2 := by
    rw [Nat.mul_assoc, ← Nat.pow_succ]
    congr 2
    omega
  rw [e] at b0 b1
  unfold usc
  rw [or_b2n]
  generalize 2 ^ (k - 1) = V at *
  obtain ⟨d1, d2⟩ := div_bounds (2000 * M) V (by omega)
  generalize 2000 * M / V = q at *
  generalize hr : 2000 * M % V = r at *
  have hq : q = 4 * us - 2 ∨ q = 4 * us - 1 ∨ q = 4 * us ∨ q = 4 * us + 1 := by
    by_cases c1 : q + 3 ≤ 4 * us
    · have : V * (q + 3) ≤ V * (4 * us) := Nat.mul_le_mul_left V c1
      have e2 : V * (4 * us) = 4 * (us * V) := by rw [Nat.mul_comm us V, Nat.mul_left_comm]
      rw [Nat.mul_add] at this
      omega
    · by_cases c2 : 4 * us + 2 ≤ q
      · have : V * (4 * us + 2) ≤ V * q := Nat.mul_le_mul_left V c2
        have e2 : V * (4 * us) = 4 * (us * V) := by rw [Nat.mul_comm us V, Nat.mul_left_comm]
        rw [Nat.mul_add] at this
        omega
      · omega
  rcases hq with rfl | rfl | rfl | rfl
  · have e2 : V * (4 * us - 2) + V * 2 = 4 * (us * V) := by
      rw [← Nat.mul_add, show 4 * us - 2 + 2 = 4 * us by omega, Nat.mul_comm us V, Nat.mul_left_comm]
    have : (r != 0) = true := by simp only [bne_iff_ne, ne_eq]; omega
    rw [if_pos this]
    omega
  · split <;> omega
  · split <;> omega
  · split <;> omega

theorem usc4 (M us k : Nat) (h1 : 1 ≤ us) (hk : 10 ≤ k) (b0 : 1000 * M ≤ us * 2 ^ k + 500) (b1 : us * 2 ^ k ≤ 1000 * M + 500) :
    40 * us - 19 ≤ usc (1250 * M) (k - 5) ∧ usc (1250 * M) (k - 5) ≤ 40 * us + 19 := by
  have hV : 32 ≤ 2 ^ (k - 5) := by
    have : 2 ^ 5 ≤ 2 ^ (k - 5) := Nat.pow_le_pow_right (by decide) (by omega)
    omega
  have e : us * 2 ^ k = us * 2 ^ (k - 5) * 32 := by
    rw [Nat.mul_assoc, show (32 : Nat) = 2 ^ 5 from rfl, ← Nat.pow_add]
    congr 2
    omega
  rw [e] at b0 b1
  unfold usc
  rw [or_b2n]
  generalize 2 ^ (k - 5) = V at *
  obtain ⟨d1, d2⟩ := div_bounds (1250 * M) V (by omega)
  generalize 1250 * M / V = q at *
  generalize hr : 1250 * M % V = r at *
  have e3 : V * (40 * us) = 40 * (us * V) := by rw [Nat.mul_comm us V, Nat.mul_left_comm]
  have hq : 40 * us ≤ q + 20 ∧ q ≤ 40 * us + 19 := by
    by_cases c1 : q + 21 ≤ 40 * us
    · have : V * (q + 21) ≤ V * (40 * us) := Nat.mul_le_mul_left V c1
      rw [Nat.mul_add] at this
      omega
    · by_cases c2 : 40 * us + 20 ≤ q
      · have : V * (40 * us + 20) ≤ V * q := Nat.mul_le_mul_left V c2
        rw [Nat.mul_add] at this
        omega
      · omega
  by_cases c : q = 40 * us - 20
  · subst c
    have e2 : V * (40 * us - 20) + V * 20 = 40 * (us * V) := by
      rw [← Nat.mul_add, show 40 * us - 20 + 20 = 40 * us by omega, e3]
    have : (r != 0) = true := by simp only [bne_iff_ne, ne_eq]; omega
    rw [if_pos this]
    omega
  · split <;> omega

theorem div10_near (u us : Nat) (h1 : 1 ≤ us) (h : 40 * us - 19 ≤ u) (h' : u ≤ 40 * us + 19) : div10 u = 4 * us - 1 ∨ div10 u = 4 * us ∨ div10 u = 4 * us + 1 := by
  unfold div10
  have e1 : u / 10 ||| u % 2 = if u % 2 = 1 then u / 10 - u / 10 % 2 + 1 else u / 10 := by
    have : u % 2 = 0 ∨ u % 2 = 1 := by omega
    rcases this with h | h
    · rw [h]; exact or_zero _
    · rw [h]; exact or_one _
  rw [e1, or_b2n]
  by_cases c : u % 10 = 0
  · have : (u % 10 != 0) = false := by simp [c]
    rw [this]
    simp only [Bool.false_eq_true, if_false]
    split <;> omega
  · have : (u % 10 != 0) = true := by simp [c]
    rw [this]
    simp only [if_true]
    split <;> omega
end Go.Proofs.Qxb6614386aDoor.Ms
