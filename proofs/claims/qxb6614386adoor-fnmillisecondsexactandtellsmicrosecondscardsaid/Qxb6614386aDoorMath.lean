/-
  The plain arithmetic under 'milliseconds': what the word of float64(us)/1000 is, and that scaling, dividing and rounding it gives us back. No Go in sight.
-/
import GoSem.Core.Float
namespace Go.Proofs.Qxb6614386aDoor.Ms

theorem log2_eq {n j : Nat} (h0 : 2 ^ j ≤ n) (h1 : n < 2 ^ (j + 1)) : n.log2 = j := by
  have hn : n ≠ 0 := by have := Nat.two_pow_pos j; omega
  exact (Nat.log2_eq_iff hn).2 ⟨h0, h1⟩

/-- Round half to even, the plain form. -/
theorem cut_even (neg : Bool) (n drop : Nat) (hd : drop ≤ n.log2 + 2) :
    Ieee.Toward.even.cut neg n drop = n / 2 ^ drop + (decide (2 ^ drop < 2 * (n % 2 ^ drop)) || (2 ^ drop == 2 * (n % 2 ^ drop) && (n / 2 ^ drop) % 2 == 1)).toNat := by
  unfold Ieee.Toward.cut
  rw [Nat.min_eq_left hd, Nat.one_shiftLeft]

/-- The word of a number that the format has exactly: us below 2^53. -/
theorem word_nat (neg : Bool) (us L : Nat) (hL : L ≤ 52) (h0 : 2 ^ L ≤ us) (h1 : us < 2 ^ (L + 1)) :
    Ieee.double.nearest neg us 0 = Ieee.double.word neg ((L + 1022) * 2 ^ 52 + us * 2 ^ (52 - L)) := by
  have hn : us ≠ 0 := by have := Nat.two_pow_pos L; omega
  have hl := log2_eq h0 h1
  have hle : Ieee.double.leastPlace = -1074 := by decide
  unfold Ieee.Format.nearest
  rw [if_neg hn, hl, hle]
  have e1 : max (0 + (L : Int) - (Ieee.double.fractionBits : Int)) (-1074) = (L : Int) - 52 := by
    show max (0 + (L : Int) - 52) (-1074) = _
    omega
  dsimp only
  rw [e1]
  have e2 : (0 - ((L : Int) - 52)).toNat = 52 - L := by omega
  have e3 : ((L : Int) - 52 - 0).toNat = 0 := by omega
  have e4 : ((L : Int) - 52 - -1074).toNat = L + 1022 := by omega
  rw [e2, e3, e4, Nat.shiftLeft_eq, cut_even _ _ _ (by omega)]
  have e5 : us * 2 ^ (52 - L) % 2 ^ 0 = 0 := by simp [Nat.mod_one]
  rw [e5]
  simp only [Nat.pow_zero, Nat.div_one]
  have e6 : (decide (1 < 2 * 0) || (1 == 2 * 0 && us * 2 ^ (52 - L) % 2 == 1)).toNat = 0 := by simp
  rw [e6]
  have hb : us * 2 ^ (52 - L) < 2 ^ 53 := by
    have : us * 2 ^ (52 - L) < 2 ^ (L + 1) * 2 ^ (52 - L) := Nat.mul_lt_mul_of_pos_right h1 (Nat.two_pow_pos _)
    rw [← Nat.pow_add, show L + 1 + (52 - L) = 53 by omega] at this
    exact this
  have hi : Ieee.double.infRung = 2047 * 2 ^ 52 := by decide
  have hbn : Ieee.double.binade = 2 ^ 52 := by decide
  rw [hi, hbn, Nat.min_eq_left (by omega)]
  rfl

/-- Reading a normal word. -/
theorem read_word (neg : Bool) (E M : Nat) (hE0 : 1 ≤ E) (hE : E ≤ 2046) (hM0 : 2 ^ 52 ≤ M) (hM : M < 2 ^ 53) :
    Ieee.double.read (Ieee.double.word neg ((E - 1) * 2 ^ 52 + M)) = .number neg M (-1074 + ((E - 1 : Nat) : Int)) := by
  have hsw : Ieee.double.signWeight = 2 ^ 63 := by decide
  have hbn : Ieee.double.binade = 2 ^ 52 := by decide
  have hi : Ieee.double.infRung = 2047 * 2 ^ 52 := by decide
  have hle : Ieee.double.leastPlace = -1074 := by decide
  unfold Ieee.Format.read Ieee.Format.word
  rw [hsw, hbn, hi, hle]
  have hr : (E - 1) * 2 ^ 52 + M < 2 ^ 63 := by omega
  have a1 : ((if neg = true then 2 ^ 63 + ((E - 1) * 2 ^ 52 + M) else (E - 1) * 2 ^ 52 + M) / 2 ^ 63 % 2 == 1) = neg := by
    cases neg
    · rw [if_neg (by simp), Nat.div_eq_of_lt hr]; rfl
    · rw [if_pos rfl, Nat.add_div_left _ (by decide), Nat.div_eq_of_lt hr]; rfl
  have a2 : (if neg = true then 2 ^ 63 + ((E - 1) * 2 ^ 52 + M) else (E - 1) * 2 ^ 52 + M) % 2 ^ 63 = (E - 1) * 2 ^ 52 + M := by
    cases neg
    · rw [if_neg (by simp), Nat.mod_eq_of_lt hr]
    · rw [if_pos rfl, Nat.add_mod_left, Nat.mod_eq_of_lt hr]
  dsimp only
  rw [a1, a2, if_neg (by omega), if_pos (by omega)]
  have a3 : ((E - 1) * 2 ^ 52 + M) / 2 ^ 52 = E := by omega
  have a4 : 2 ^ 52 + ((E - 1) * 2 ^ 52 + M) % 2 ^ 52 = M := by omega
  rw [a3, a4]

/-- The constant 1000.0. -/
theorem read_1000 : Ieee.double.read 4652007308841189376 = .number false (1000 * 2 ^ 43) (-43) := by decide

/-- THE QUOTIENT: of us (as a word's datum) by 1000: its magnitude and place. -/
theorem quot (neg : Bool) (us L : Nat) (hL : L ≤ 52) (h0 : 2 ^ L ≤ us) (h1 : us < 2 ^ (L + 1)) :
    Ieee.Datum.quotient 54 (.number neg (us * 2 ^ (52 - L)) (-1074 + ((L + 1023 - 1 : Nat) : Int))) (.number false (1000 * 2 ^ 43) (-43)) =
      some (.number neg (2 * (us * 2 ^ (63 - L) / 1000) + (us * 2 ^ (63 - L) % 1000 != 0).toNat) ((L : Int) - 64)) := by
  have hb : us * 2 ^ (52 - L) < 2 ^ 53 := by
    have : us * 2 ^ (52 - L) < 2 ^ (L + 1) * 2 ^ (52 - L) := Nat.mul_lt_mul_of_pos_right h1 (Nat.two_pow_pos _)
    rw [← Nat.pow_add, show L + 1 + (52 - L) = 53 by omega] at this
    exact this
  have ha : 2 ^ 52 ≤ us * 2 ^ (52 - L) := by
    have : 2 ^ L * 2 ^ (52 - L) ≤ us * 2 ^ (52 - L) := Nat.mul_le_mul_right _ h0
    rw [← Nat.pow_add, show L + (52 - L) = 52 by omega] at this
    exact this
  have l1 : (us * 2 ^ (52 - L)).log2 = 52 := log2_eq ha hb
  have l2 : (1000 * 2 ^ 43 : Nat).log2 = 52 := by decide
  have e1 : (us * 2 ^ (52 - L)) <<< (54 + 52 - 52) = us * 2 ^ (63 - L) * 2 ^ 43 := by
    rw [Nat.shiftLeft_eq, Nat.mul_assoc, Nat.mul_assoc, ← Nat.pow_add, ← Nat.pow_add]
    congr 2
    omega
  unfold Ieee.Datum.quotient
  dsimp only
  rw [if_neg (by decide)]
  rw [l1, l2, e1, Nat.mul_div_mul_right _ _ (by decide), Nat.mul_mod_mul_right]
  have e2 : (us * 2 ^ (63 - L) % 1000 * 2 ^ 43 != 0) = (us * 2 ^ (63 - L) % 1000 != 0) := by
    generalize us * 2 ^ (63 - L) % 1000 = X
    rw [Bool.eq_iff_iff]
    simp only [bne_iff_ne, ne_eq]
    omega
  have e3 : (-1074 + ((L + 1023 - 1 : Nat) : Int)) - -43 - ((54 + 52 - 52 : Nat) : Int) - 1 = (L : Int) - 64 := by omega
  rw [e2, e3, Bool.xor_false]

/-- One rounding, 2 or 3 binary digits dropped. -/
theorem near_drop (neg : Bool) (mag L drop : Nat) (hL : L ≤ 52) (hd : drop = 2 ∨ drop = 3) (h0 : 2 ^ (52 + drop) ≤ mag) (h1 : mag < 2 ^ (52 + drop + 1)) :
    ∃ kept : Nat, 2 ^ 52 ≤ kept ∧ kept ≤ 2 ^ 53 ∧ 2 * mag ≤ 2 * (kept * 2 ^ drop) + 2 ^ drop ∧ 2 * (kept * 2 ^ drop) ≤ 2 * mag + 2 ^ drop ∧
      Ieee.double.nearest neg mag ((L : Int) - 64) = Ieee.double.word neg ((L + 1010 + drop) * 2 ^ 52 + kept) := by
  have hn : mag ≠ 0 := by have := Nat.two_pow_pos (52 + drop); omega
  have hl := log2_eq h0 h1
  have hle : Ieee.double.leastPlace = -1074 := by decide
  have hi : Ieee.double.infRung = 2047 * 2 ^ 52 := by decide
  have hbn : Ieee.double.binade = 2 ^ 52 := by decide
  refine ⟨Ieee.Toward.even.cut neg mag drop, ?_⟩
  have key : 2 ^ 52 ≤ Ieee.Toward.even.cut neg mag drop ∧ Ieee.Toward.even.cut neg mag drop ≤ 2 ^ 53 ∧ 2 * mag ≤ 2 * (Ieee.Toward.even.cut neg mag drop * 2 ^ drop) + 2 ^ drop ∧ 2 * (Ieee.Toward.even.cut neg mag drop * 2 ^ drop) ≤ 2 * mag + 2 ^ drop := by
    rw [cut_even _ _ _ (by rw [hl]; omega)]
    rcases hd with rfl | rfl
    · have hb : ∀ b : Bool, b.toNat ≤ 1 := by decide
      cases hc : (decide (2 ^ 2 < 2 * (mag % 2 ^ 2)) || (2 ^ 2 == 2 * (mag % 2 ^ 2) && (mag / 2 ^ 2) % 2 == 1)) with
      | false =>
        simp only [Bool.or_eq_false_iff, decide_eq_false_iff_not] at hc
        have := hc.1
        simp only [Bool.toNat_false]
        omega
      | true =>
        simp only [Bool.or_eq_true, decide_eq_true_eq, Bool.and_eq_true, beq_iff_eq] at hc
        simp only [Bool.toNat_true]
        omega
    · cases hc : (decide (2 ^ 3 < 2 * (mag % 2 ^ 3)) || (2 ^ 3 == 2 * (mag % 2 ^ 3) && (mag / 2 ^ 3) % 2 == 1)) with
      | false =>
        simp only [Bool.or_eq_false_iff, decide_eq_false_iff_not] at hc
        have := hc.1
        simp only [Bool.toNat_false]
        omega
      | true =>
        simp only [Bool.or_eq_true, decide_eq_true_eq, Bool.and_eq_true, beq_iff_eq] at hc
        simp only [Bool.toNat_true]
        omega
  refine ⟨key.1, key.2.1, key.2.2.1, key.2.2.2, ?_⟩
  unfold Ieee.Format.nearest
  rw [if_neg hn, hl, hle]
  have e1 : max ((L : Int) - 64 + ((52 + drop : Nat) : Int) - (Ieee.double.fractionBits : Int)) (-1074) = (L : Int) - 64 + drop := by
    show max ((L : Int) - 64 + ((52 + drop : Nat) : Int) - 52) (-1074) = _
    omega
  dsimp only
  rw [e1]
  have e2 : ((L : Int) - 64 - ((L : Int) - 64 + drop)).toNat = 0 := by omega
  have e3 : ((L : Int) - 64 + drop - ((L : Int) - 64)).toNat = drop := by omega
  have e4 : ((L : Int) - 64 + drop - -1074).toNat = L + 1010 + drop := by omega
  rw [e2, e3, e4, Nat.shiftLeft_zero, hi, hbn, Nat.min_eq_left (by have := key.2.1; omega)]

/-- THE WORD OF us/1000: the mantissa M and k, the number of binary places: |1000 M - us 2^k| ≤ 500. -/
theorem near (neg : Bool) (us L : Nat) (hL : L ≤ 52) (h0 : 2 ^ L ≤ us) (h1 : us < 2 ^ (L + 1)) :
    ∃ M k : Nat, 2 ^ 52 ≤ M ∧ M < 2 ^ 53 ∧ k ≤ 62 ∧ 8 ≤ k ∧ 1000 * M ≤ us * 2 ^ k + 500 ∧ us * 2 ^ k ≤ 1000 * M + 500 ∧
      Ieee.double.nearest neg (2 * (us * 2 ^ (63 - L) / 1000) + (us * 2 ^ (63 - L) % 1000 != 0).toNat) ((L : Int) - 64) = Ieee.double.word neg ((1075 - k - 1) * 2 ^ 52 + M) := by
  have hT0 : 2 ^ 63 ≤ us * 2 ^ (63 - L) := by
    have : 2 ^ L * 2 ^ (63 - L) ≤ us * 2 ^ (63 - L) := Nat.mul_le_mul_right _ h0
    rw [← Nat.pow_add, show L + (63 - L) = 63 by omega] at this
    exact this
  have hT1 : us * 2 ^ (63 - L) < 2 ^ 64 := by
    have : us * 2 ^ (63 - L) < 2 ^ (L + 1) * 2 ^ (63 - L) := Nat.mul_lt_mul_of_pos_right h1 (Nat.two_pow_pos _)
    rw [← Nat.pow_add, show L + 1 + (63 - L) = 64 by omega] at this
    exact this
  have hs : (us * 2 ^ (63 - L) % 1000 != 0).toNat = if us * 2 ^ (63 - L) % 1000 = 0 then 0 else 1 := by
    by_cases h : us * 2 ^ (63 - L) % 1000 = 0 <;> simp [h]
  have main : ∀ drop, drop = 2 ∨ drop = 3 → 2 ^ (52 + drop) ≤ 2 * (us * 2 ^ (63 - L) / 1000) + (us * 2 ^ (63 - L) % 1000 != 0).toNat → 2 * (us * 2 ^ (63 - L) / 1000) + (us * 2 ^ (63 - L) % 1000 != 0).toNat < 2 ^ (52 + drop + 1) →
      ∃ M k : Nat, 2 ^ 52 ≤ M ∧ M < 2 ^ 53 ∧ k ≤ 62 ∧ 8 ≤ k ∧ 1000 * M ≤ us * 2 ^ k + 500 ∧ us * 2 ^ k ≤ 1000 * M + 500 ∧
      Ieee.double.nearest neg (2 * (us * 2 ^ (63 - L) / 1000) + (us * 2 ^ (63 - L) % 1000 != 0).toNat) ((L : Int) - 64) = Ieee.double.word neg ((1075 - k - 1) * 2 ^ 52 + M) := by
    intro drop hd g0 g1
    obtain ⟨kept, k0, k1, b0, b1, hw⟩ := near_drop neg _ L drop hL hd g0 g1
    rw [hs] at b0 b1
    have hk : us * 2 ^ (63 - L) * 2 = us * 2 ^ (64 - L - drop) * 2 ^ drop := by
      rw [Nat.mul_assoc, Nat.mul_assoc, ← Nat.pow_add, ← Nat.pow_succ]
      congr 2
      omega
    have b2 : 1000 * kept ≤ us * 2 ^ (64 - L - drop) + 500 ∧ us * 2 ^ (64 - L - drop) ≤ 1000 * kept + 500 := by
      generalize us * 2 ^ (64 - L - drop) = V at hk
      generalize us * 2 ^ (63 - L) = T at hk b0 b1
      clear hw g0 g1 hT0 hT1 hs
      rcases hd with rfl | rfl
      · by_cases h : T % 1000 = 0
        · rw [if_pos h] at b0 b1; omega
        · rw [if_neg h] at b0 b1; omega
      · by_cases h : T % 1000 = 0
        · rw [if_pos h] at b0 b1; omega
        · rw [if_neg h] at b0 b1; omega
    by_cases hc : kept < 2 ^ 53
    · refine ⟨kept, 64 - L - drop, k0, hc, by omega, by omega, b2.1, b2.2, ?_⟩
      have : 1075 - (64 - L - drop) - 1 = L + 1010 + drop := by omega
      rw [hw, this]
    · have hk2 : us * 2 ^ (64 - L - drop) = us * 2 ^ (63 - L - drop) * 2 := by
        rw [Nat.mul_assoc, ← Nat.pow_succ]
        congr 2
        omega
      refine ⟨2 ^ 52, 63 - L - drop, Nat.le_refl _, by decide, by omega, by omega, by omega, by omega, ?_⟩
      have hk3 : (1075 - (63 - L - drop) - 1) * 2 ^ 52 + 2 ^ 52 = (L + 1010 + drop) * 2 ^ 52 + kept := by omega
      rw [hw, hk3]
  by_cases hq : us * 2 ^ (63 - L) / 1000 < 2 ^ 54
  · exact main 2 (.inl rfl) (by omega) (by rw [hs]; split <;> omega)
  · exact main 3 (.inr rfl) (by omega) (by rw [hs]; split <;> omega)

/-- THE DIVISION: float64(us)/1000 as words, us not nought. -/
theorem div_word (neg : Bool) (us : Nat) (h1 : 1 ≤ us) (h2 : us ≤ 8700000000000000) :
    ∃ M k : Nat, 2 ^ 52 ≤ M ∧ M < 2 ^ 53 ∧ k ≤ 62 ∧ 10 ≤ k ∧ 1000 * M ≤ us * 2 ^ k + 500 ∧ us * 2 ^ k ≤ 1000 * M + 500 ∧
      Ieee.double.div (Ieee.double.nearest neg us 0) 4652007308841189376 = some (Ieee.double.word neg ((1075 - k - 1) * 2 ^ 52 + M)) := by
  obtain ⟨L, hl⟩ : ∃ L, us.log2 = L := ⟨_, rfl⟩
  have hn : us ≠ 0 := by omega
  obtain ⟨h0, h3⟩ := (Nat.log2_eq_iff hn).1 hl
  have hL : L ≤ 52 := by
    by_cases h : L ≤ 52
    · exact h
    · have : 2 ^ 53 ≤ 2 ^ L := Nat.pow_le_pow_right (by decide) (by omega)
      omega
  have hb : us * 2 ^ (52 - L) < 2 ^ 53 := by
    have : us * 2 ^ (52 - L) < 2 ^ (L + 1) * 2 ^ (52 - L) := Nat.mul_lt_mul_of_pos_right h3 (Nat.two_pow_pos _)
    rw [← Nat.pow_add, show L + 1 + (52 - L) = 53 by omega] at this
    exact this
  have ha : 2 ^ 52 ≤ us * 2 ^ (52 - L) := by
    have : 2 ^ L * 2 ^ (52 - L) ≤ us * 2 ^ (52 - L) := Nat.mul_le_mul_right _ h0
    rw [← Nat.pow_add, show L + (52 - L) = 52 by omega] at this
    exact this
  obtain ⟨M, k, m0, m1, k1, k0, b0, b1, hw⟩ := near neg us L hL h0 h3
  refine ⟨M, k, m0, m1, k1, ?_, b0, b1, ?_⟩
  · by_cases h : 10 ≤ k
    · exact h
    · have : k = 8 ∨ k = 9 := by omega
      rcases this with rfl | rfl <;> omega
  · unfold Ieee.Format.div
    rw [word_nat neg us L hL h0 h3, read_1000]
    have e := read_word neg (L + 1023) (us * 2 ^ (52 - L)) (by omega) (by omega) ha hb
    rw [show L + 1023 - 1 = L + 1022 by omega] at e
    rw [e]
    have q := quot neg us L hL h0 h3
    rw [show L + 1023 - 1 = L + 1022 by omega] at q
    show (Ieee.Datum.quotient 54 _ _).map _ = _
    rw [q]
    show some (Ieee.double.nearest neg _ _) = _
    rw [hw]
theorem div_zero : Ieee.double.div (Ieee.double.nearest false 0 0) 4652007308841189376 = some 0 := by decide
end Go.Proofs.Qxb6614386aDoor.Ms
