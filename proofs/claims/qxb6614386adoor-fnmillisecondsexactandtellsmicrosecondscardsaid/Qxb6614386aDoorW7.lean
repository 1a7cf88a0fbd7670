/-
  fixedWidthFloat and fmtEFG joined: the digits' number, the text.
-/
import Derived.Test.Qxb6614386aDoorW5
import Derived.Test.Qxb6614386aDoorW6
import Derived.Test.Qxb6614386aDoorMath
namespace Go.Proofs.Qxb6614386aDoor
open Go.RowKit Ms Go.Sort

/-- How many digits ftoa64 asks for. -/
def nK (k : Nat) : Nat := if k ≤ 52 then 4 + (53 - k) * 78913 / 262144 else 4 - (k - 52) * 78913 / 262144
def l0K (k : Nat) : Int := (52 - (k : Int)) * 78913 / 262144
theorem nK_tab : ∀ k : Fin 63, 10 ≤ k.val → 1 ≤ nK k.val ∧ nK k.val ≤ 16 ∧
    (((nK k.val : Int) - 1 - l0K k.val = 3 ∧ k.val ≤ 52 ∧ 1000 * 2 ^ 53 + 500 ≤ 10 ^ (nK k.val) * 2 ^ k.val) ∨ (nK k.val : Int) - 1 - l0K k.val = 4) := by decide +kernel
theorem nK_at (k : Nat) (h0 : 10 ≤ k) (h1 : k ≤ 62) : 1 ≤ nK k ∧ nK k ≤ 16 ∧
    (((nK k : Int) - 1 - l0K k = 3 ∧ k ≤ 52 ∧ 1000 * 2 ^ 53 + 500 ≤ 10 ^ (nK k) * 2 ^ k) ∨ (nK k : Int) - 1 - l0K k = 4) := nK_tab ⟨k, by omega⟩ h0
theorem nK_low (k : Nat) (h : k ≤ 52) : (53 - (k : Int)) * 78913 / 262144 = (nK k : Int) - 4 := by
  unfold nK; rw [if_pos h]; omega
theorem nK_high (k : Nat) (h : 52 < k) (h1 : k ≤ 62) : ((k : Int) - 52) * 78913 / 262144 = 4 - (nK k : Int) := by
  unfold nK; rw [if_neg (by omega)]; omega

structure Tabs (w : World) : Prop where
  big : 2 < w.heap.size
  opt : w.cell? ⟨0, 0, none⟩ = some (.bool true)
  ten : ∀ n : Nat, n < 20 → w.cell? ⟨1, n, none⟩ = some (.int .u64 ((10 ^ n : Nat) : Int))
  c702 : w.cell? ⟨2, 702, none⟩ = some (.int .u64 18014398509481984000)
  c703 : w.cell? ⟨2, 703, none⟩ = some (.int .u64 0)
  c704 : w.cell? ⟨2, 704, none⟩ = some (.int .u64 11258999068426240000)
  c705 : w.cell? ⟨2, 705, none⟩ = some (.int .u64 0)
theorem Tabs.below {B : Nat} {w w' : World} (h : Tabs w) (hB : 3 ≤ B) (hb : Below B w w') : Tabs w' :=
  ⟨Nat.lt_of_lt_of_le h.big hb.size, (hb.cell (p := ⟨0, 0, none⟩) (by show 0 < B; omega)).trans h.opt, fun n hn => (hb.cell (p := ⟨1, n, none⟩) (by show 1 < B; omega)).trans (h.ten n hn),
    (hb.cell (p := ⟨2, 702, none⟩) (by show 2 < B; omega)).trans h.c702, (hb.cell (p := ⟨2, 703, none⟩) (by show 2 < B; omega)).trans h.c703, (hb.cell (p := ⟨2, 704, none⟩) (by show 2 < B; omega)).trans h.c704, (hb.cell (p := ⟨2, 705, none⟩) (by show 2 < B; omega)).trans h.c705⟩

theorem fwf_any (M k us : Nat) (w : World) (hM : M < 2 ^ 53) (hk0 : 10 ≤ k) (hk : k ≤ 62) (hus1 : 1 ≤ us) (hus : us ≤ 8700000000000000) (b0 : 1000 * M ≤ us * 2 ^ k + 500) (b1 : us * 2 ^ k ≤ 1000 * M + 500) (ht : Tabs w) :
    Calls Tryd.prog 27 #[.int .u64 ((M * 2048 : Nat) : Int), .int .i64 (-11 - (k : Int)), .int .i64 (nK k), .int .i64 3, .int .u8 102] w fun e w' => e = .returned (.tuple #[.int .u64 us, .int .i64 (-3)]) ∧ Below w.heap.size w w' := by
  obtain ⟨n1, n16, hc⟩ := nK_at k hk0 hk
  have hT0 : 1 ≤ 10 ^ nK k := Nat.one_le_pow _ _ (by decide)
  have hT : 10 ^ nK k ≤ 10 ^ 16 := Nat.pow_le_pow_right (by decide) n16
  have hct := ht.ten (nK k) (by omega)
  rcases hc with ⟨hp, hk52, hb⟩ | hp
  · have hu := usc3 M us k hus1 hk0 b0 b1
    have hlt : us < 10 ^ nK k := by
      by_cases h : us < 10 ^ nK k
      · exact h
      · have : 10 ^ nK k * 2 ^ k ≤ us * 2 ^ k := Nat.mul_le_mul_right _ (by omega)
        omega
    exact fwf3 (M * 2048) (2000 * M) k us (nK k) _ ((10 ^ nK k : Nat) : Int) (l0K k) w (by omega) (by omega) (by omega) hk0 hk52 rfl hp (by omega) rfl (by omega) (rnd_near _ us hus1 hu) (by omega) (by omega) ht.c702 ht.c703 hct ht.big
  · obtain ⟨hu1, hu2⟩ := usc4 M us k hus1 hk0 b0 b1
    have hd := div10_near _ us hus1 hu1 hu2
    exact fwf4 (M * 2048) (1250 * M) k us (nK k) _ ((10 ^ nK k : Nat) : Int) (l0K k) w (by omega) (by omega) (by omega) hk0 hk rfl hp (by omega) rfl (by omega) (by omega) (rnd_near _ us hus1 hd) (by omega) (by omega) ht.c704 ht.c705 hct ht.big

/-- The text: a sign, the whole milliseconds, a point, three digits. -/
def msText (neg : Bool) (us : Nat) : List UInt8 := (if neg then [45] else []) ++ Lib.decDigits (us / 1000) ++ [46] ++ [Lib.dg us 2, Lib.dg us 1, Lib.dg us 0]

theorem pad (f : Nat → UInt8) (m : Nat) : ∀ z, (∀ t, m ≤ t → t < m + z → f t = 48) → (List.range m).map f ++ List.replicate z 48 = (List.range (m + z)).map f
  | 0, _ => by simp
  | z + 1, h => by
    rw [rep_succ, ← List.append_assoc, pad f m z (fun t h1 h2 => h t h1 (by omega)), ← Nat.add_assoc, rng_succ0, h (m + z) (by omega) (by omega)]
theorem dg_thousand (u j : Nat) : Lib.dg (u / 1000) j = Lib.dg u (j + 3) := by
  rw [Lib.dg_succ, Lib.dg_succ, Lib.dg_succ, Nat.div_div_eq_div_mul, Nat.div_div_eq_div_mul]
theorem nDigits_thousand (u : Nat) (h : 1000 ≤ u) : Lib.nDigits u = Lib.nDigits (u / 1000) + 3 := by
  rw [Lib.nDigits_big (u := u) (by omega), Lib.nDigits_big (u := u / 10) (by omega), Lib.nDigits_big (u := u / 10 / 10) (by omega), Nat.div_div_eq_div_mul, Nat.div_div_eq_div_mul]
theorem text_pos (us nz : Nat) (hN : 1000 ≤ us) (hz : ∀ t, nz ≤ t → t < Lib.nDigits us → Lib.dg us (Lib.nDigits us - 1 - t) = 48) (m z q r d : Nat) (hd : d + 3 = Lib.nDigits us) (hm : m = min nz d) (hmz : m + z = d) (hq : q = nz - d) (hqr : q + r = 3) :
    (List.range m).map (fun t => Lib.dg us (Lib.nDigits us - 1 - t)) ++ List.replicate z 48 = Lib.decDigits (us / 1000) ∧
    (List.range q).map (fun t => Lib.dg us (Lib.nDigits us - 1 - (d + t))) ++ List.replicate r 48 = [Lib.dg us 2, Lib.dg us 1, Lib.dg us 0] := by
  have hnd := nDigits_thousand us hN
  constructor
  · rw [pad _ m z (fun t h1 h2 => hz t (by omega) (by omega)), hmz, Lib.decDigits_eq, show Lib.nDigits (us / 1000) = d by omega]
    apply List.map_congr_left
    intro t ht
    have ht' := List.mem_range.1 ht
    rw [dg_thousand]
    congr 1
    omega
  · rw [pad (fun t => Lib.dg us (Lib.nDigits us - 1 - (d + t))) q r (fun t h1 h2 => hz (d + t) (by omega) (by omega)), hqr]
    have e0 : Lib.nDigits us - 1 - (d + 0) = 2 := by omega
    have e1 : Lib.nDigits us - 1 - (d + 1) = 1 := by omega
    have e2 : Lib.nDigits us - 1 - (d + 2) = 0 := by omega
    show [Lib.dg us (Lib.nDigits us - 1 - (d + 0)), Lib.dg us (Lib.nDigits us - 1 - (d + 1)), Lib.dg us (Lib.nDigits us - 1 - (d + 2))] = _
    rw [e0, e1, e2]
theorem dg_small (u j : Nat) (h : u < 10 ^ j) : Lib.dg u j = 48 := by
  unfold Lib.dg
  rw [Nat.div_eq_of_lt h]; rfl
theorem text_low (us nz : Nat) (h0 : 1 ≤ us) (hN : us < 1000) (hz : ∀ t, nz ≤ t → t < Lib.nDigits us → Lib.dg us (Lib.nDigits us - 1 - t) = 48) (z r : Nat) (hd : z + Lib.nDigits us = 3) (hr : nz + r = Lib.nDigits us) :
    Lib.decDigits (us / 1000) = [48] ∧
    List.replicate z 48 ++ (List.range nz).map (fun t => Lib.dg us (Lib.nDigits us - 1 - t)) ++ List.replicate r 48 = [Lib.dg us 2, Lib.dg us 1, Lib.dg us 0] := by
  constructor
  · rw [Nat.div_eq_of_lt hN]; exact Lib.decDigits_one (by decide)
  · rw [List.append_assoc, pad _ nz r (fun t h1 h2 => hz t h1 (by omega)), hr]
    have hlt := Lib.lt_pow_nDigits us
    have hp := Lib.nDigits_pos us
    have : Lib.nDigits us = 1 ∨ Lib.nDigits us = 2 ∨ Lib.nDigits us = 3 := by omega
    rcases this with e | e | e
    · rw [e] at hlt ⊢
      obtain rfl : z = 2 := by omega
      rw [dg_small us 2 (by omega), dg_small us 1 (by omega)]; rfl
    · rw [e] at hlt ⊢
      obtain rfl : z = 1 := by omega
      rw [dg_small us 2 (by omega)]; rfl
    · rw [e] at hlt ⊢
      obtain rfl : z = 0 := by omega
      rfl
theorem nDigits_small1000 (us : Nat) (h0 : us < 1000) : Lib.nDigits us ≤ 3 := by
  by_cases h1 : us < 10
  · rw [Lib.nDigits_small h1]; omega
  · rw [Lib.nDigits_big h1]
    by_cases h2 : us / 10 < 10
    · rw [Lib.nDigits_small h2]; omega
    · rw [Lib.nDigits_big h2, Lib.nDigits_small (by omega)]
      omega
theorem nDigits_le16 (us : Nat) (h : us ≤ 8700000000000000) : Lib.nDigits us ≤ 16 := by
  by_cases c : Lib.nDigits us ≤ 16
  · exact c
  · have : ∀ k u, 10 ^ k ≤ u ∨ Lib.nDigits u ≤ k ∨ k = 0 := by
      intro k
      induction k with
      | zero => intro u; exact .inr (.inr rfl)
      | succ k ih =>
        intro u
        by_cases hu : u < 10
        · rw [Lib.nDigits_small hu]; exact .inr (.inl (by omega))
        · rcases ih (u / 10) with h1 | h1 | h1
          · refine .inl ?_
            rw [Nat.pow_succ]; omega
          · refine .inr (.inl ?_)
            rw [Lib.nDigits_big hu]; omega
          · subst h1
            refine .inl ?_
            omega
    rcases this 16 us with h1 | h1 | h1
    · omega
    · exact absurd h1 c
    · omega

/-- fmtEFG on what setDigits leaves: the text. -/
theorem fmtF_any (neg : Bool) (D B us nz : Nat) (w : World) (h1 : 1 ≤ us) (hus : us ≤ 8700000000000000) (hnz : nz ≤ Lib.nDigits us) (hz : ∀ t, nz ≤ t → t < Lib.nDigits us → Lib.dg us (Lib.nDigits us - 1 - t) = 48)
    (hown : Own D [] w) (hDB : B ≠ D) (hc : ∀ t, t < Lib.nDigits us → w.cell? ⟨B, t, none⟩ = some (.int .u8 (Lib.dg us (Lib.nDigits us - 1 - t)).toNat)) :
    Calls Tryd.prog 21 #[.slice (some ⟨D, 0, none⟩) 0 24, .bool neg, .slice (some ⟨B, 0, none⟩) 24 24, .int .i64 ((Lib.nDigits us : Int) - 3), .int .i64 nz, .int .i64 3, .int .u8 102, .bool false] w fun e w' =>
      e = .returned (.slice (some ⟨D, 0, none⟩) (msText neg us).length 24) ∧ Own D (msText neg us) w' ∧ w.grownBy w' (some D) := by
  have h16 := nDigits_le16 us hus
  by_cases hN : 1000 ≤ us
  · have hnd := nDigits_thousand us hN
    have hp := Lib.nDigits_pos (us / 1000)
    obtain ⟨d, hd⟩ : ∃ d, d + 3 = Lib.nDigits us := ⟨Lib.nDigits us - 3, by omega⟩
    obtain ⟨t1, t2⟩ := text_pos us nz hN hz (min nz d) (d - min nz d) (nz - d) (3 - (nz - d)) d hd rfl (by omega) rfl (by omega)
    have ed : ((Lib.nDigits us : Int) - 3) = (d : Int) := by omega
    rw [ed]
    have key : ∀ sg : List UInt8, ((((sg ++ (List.range (min nz d)).map (fun t => Lib.dg us (Lib.nDigits us - 1 - t))) ++ List.replicate (d - min nz d) 48) ++ [46]) ++ (List.range (nz - d)).map (fun t => (fun t => Lib.dg us (Lib.nDigits us - 1 - t)) (d + t))) ++ List.replicate (3 - (nz - d)) 48
        = sg ++ Lib.decDigits (us / 1000) ++ [46] ++ [Lib.dg us 2, Lib.dg us 1, Lib.dg us 0] := by
      intro sg
      rw [← t1, ← t2]
      simp only [List.append_assoc]
    cases neg with
    | true =>
      refine (fmtF_pos_neg D B d nz (min nz d) (d - min nz d) (nz - d) (3 - (nz - d)) (fun t => Lib.dg us (Lib.nDigits us - 1 - t)) w (by omega) (by omega) (by omega) (by omega) (by omega) (by omega) (by omega) (by omega) (by omega) (by omega) hown hDB (fun t ht => hc t (by omega)) (fun t ht => hc (d + t) (by omega))).mono ?_
      rintro e w' ⟨n, hn, he, ho, hg⟩
      rw [key] at hn ho
      subst hn
      exact ⟨he, ho, hg⟩
    | false =>
      refine (fmtF_pos_nonneg D B d nz (min nz d) (d - min nz d) (nz - d) (3 - (nz - d)) (fun t => Lib.dg us (Lib.nDigits us - 1 - t)) w (by omega) (by omega) (by omega) (by omega) (by omega) (by omega) (by omega) (by omega) (by omega) (by omega) hown hDB (fun t ht => hc t (by omega)) (fun t ht => hc (d + t) (by omega))).mono ?_
      rintro e w' ⟨n, hn, he, ho, hg⟩
      rw [key] at hn ho
      subst hn
      exact ⟨he, ho, hg⟩
  · have h3 := nDigits_small1000 us (by omega)
    have hp := Lib.nDigits_pos us
    obtain ⟨z, hzz⟩ : ∃ z, z + Lib.nDigits us = 3 := ⟨3 - Lib.nDigits us, by omega⟩
    obtain ⟨r, hr⟩ : ∃ r, nz + r = Lib.nDigits us := ⟨Lib.nDigits us - nz, by omega⟩
    obtain ⟨t1, t2⟩ := text_low us nz h1 (by omega) hz z r hzz hr
    have ed : ((Lib.nDigits us : Int) - 3) = -(z : Int) := by omega
    rw [ed]
    have key : ∀ sg : List UInt8, ((((sg ++ [48]) ++ [46]) ++ List.replicate z 48) ++ (List.range nz).map (fun t => Lib.dg us (Lib.nDigits us - 1 - t))) ++ List.replicate r 48
        = sg ++ Lib.decDigits (us / 1000) ++ [46] ++ [Lib.dg us 2, Lib.dg us 1, Lib.dg us 0] := by
      intro sg
      rw [t1, ← t2]
      simp only [List.append_assoc]
    cases neg with
    | true =>
      refine (fmtF_low_neg D B z nz r (fun t => Lib.dg us (Lib.nDigits us - 1 - t)) w (by omega) (by omega) (by omega) (by omega) (by omega) (by omega) hown hDB (fun t ht => hc t (by omega))).mono ?_
      rintro e w' ⟨n, hn, he, ho, hg⟩
      rw [key] at hn ho
      subst hn
      exact ⟨he, ho, hg⟩
    | false =>
      refine (fmtF_low_nonneg D B z nz r (fun t => Lib.dg us (Lib.nDigits us - 1 - t)) w (by omega) (by omega) (by omega) (by omega) (by omega) (by omega) hown hDB (fun t ht => hc t (by omega))).mono ?_
      rintro e w' ⟨n, hn, he, ho, hg⟩
      rw [key] at hn ho
      subst hn
      exact ⟨he, ho, hg⟩
end Go.Proofs.Qxb6614386aDoor
