/-
  The decimal numeral tells the number: plain lists.
-/
import Derived.Lib.ItoaNum
namespace Go.Proofs.Qxb6614386aDoor

def val (l : List UInt8) : Nat := l.foldl (fun a b => a * 10 + (b.toNat - 48)) 0
theorem val_snoc (l : List UInt8) (b : UInt8) : val (l ++ [b]) = val l * 10 + (b.toNat - 48) := by
  unfold val
  rw [List.foldl_append]; rfl
theorem dig_val (n : Nat) (h : n < 10) : (UInt8.ofNat (48 + n)).toNat - 48 = n := by
  rw [UInt8.toNat_ofNat']
  omega
theorem val_dec (f : Nat) : ∀ u, u ≤ f → val (Lib.decDigits u) = u := by
  induction f with
  | zero =>
    intro u hu
    obtain rfl : u = 0 := by omega
    rw [Lib.decDigits_one (by decide)]; rfl
  | succ f ih =>
    intro u hu
    by_cases h : u < 10
    · rw [Lib.decDigits_one h]
      show 0 * 10 + ((UInt8.ofNat (48 + u)).toNat - 48) = u
      rw [dig_val u h]
      omega
    · rw [Lib.decDigits, dif_neg h, val_snoc, ih (u / 10) (by omega), dig_val (u % 10) (by omega)]
      omega
theorem dec_inj {a b : Nat} (h : Lib.decDigits a = Lib.decDigits b) : a = b := by
  have h1 := val_dec a a (Nat.le_refl _)
  have h2 := val_dec b b (Nat.le_refl _)
  rw [h] at h1
  omega
theorem dg_val (u j : Nat) : (Lib.dg u j).toNat - 48 = u / 10 ^ j % 10 := dig_val _ (Nat.mod_lt _ (by decide))
theorem dg_inj {a b j : Nat} (h : Lib.dg a j = Lib.dg b j) : a / 10 ^ j % 10 = b / 10 ^ j % 10 := by
  rw [← dg_val, ← dg_val, h]
/-- The whole part, a point and three digits tell the number. -/
theorem body_inj {a b : Nat} (h : Lib.decDigits (a / 1000) ++ [46] ++ [Lib.dg a 2, Lib.dg a 1, Lib.dg a 0] = Lib.decDigits (b / 1000) ++ [46] ++ [Lib.dg b 2, Lib.dg b 1, Lib.dg b 0]) : a = b := by
  obtain ⟨h1, h2⟩ := List.append_inj' h rfl
  obtain ⟨h3, _⟩ := List.append_inj' h1 rfl
  have h4 := dec_inj h3
  simp only [List.cons.injEq, and_true] at h2
  have d2 := dg_inj h2.1
  have d1 := dg_inj h2.2.1
  have d0 := dg_inj h2.2.2
  simp only [Nat.pow_zero, Nat.div_one, Nat.pow_one, show (10 : Nat) ^ 2 = 100 from rfl] at d0 d1 d2
  omega
theorem dec_head (u : Nat) (t : List UInt8) : (Lib.decDigits u ++ t).head? ≠ some 45 := by
  intro h
  have hp := Lib.nDigits_pos u
  have e : Lib.decDigits u = Lib.dg u (Lib.nDigits u - 1) :: ((List.range (Lib.nDigits u)).map fun t => Lib.dg u (Lib.nDigits u - 1 - t)).tail := by
    rw [Lib.decDigits_eq]
    obtain ⟨n, hn⟩ : ∃ n, Lib.nDigits u = n + 1 := ⟨Lib.nDigits u - 1, by omega⟩
    rw [hn, List.range_succ_eq_map]
    rfl
  rw [e] at h
  simp only [List.cons_append, List.head?_cons, Option.some.injEq] at h
  have : (Lib.dg u (Lib.nDigits u - 1)).toNat = 45 := by rw [h]; rfl
  unfold Lib.dg at this
  have hm : u / 10 ^ (Lib.nDigits u - 1) % 10 < 10 := Nat.mod_lt _ (by decide)
  rw [UInt8.toNat_ofNat'] at this
  omega
end Go.Proofs.Qxb6614386aDoor
