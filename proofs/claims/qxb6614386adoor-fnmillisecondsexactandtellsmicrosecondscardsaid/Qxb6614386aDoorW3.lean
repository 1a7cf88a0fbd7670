/-
  internal/strconv.numDigits, formatBase10, setDigits over this dump.
-/
import Derived.Test.Qxb6614386aDoorW2
import Derived.Lib.ItoaNum
namespace Go.Proofs.Qxb6614386aDoor
open Go.RowKit Ms Go.Sort
set_option maxHeartbeats 400000 in
theorem bool2i_any (b : Bool) (w : World) :
    Calls Tryd.prog 44 #[.bool b] w fun e w' => e = .returned (.int .i64 (b2n b)) ∧ w' = w := by
  cases b
  all_goals
    go_enter Tryd.func44, Tryd.ntmps44
    go_wp2
    go_ret
    exact ⟨rfl, rfl⟩
set_option maxHeartbeats 400000 in
theorem numDigits_any (u : Nat) (w : World) (h1 : 1 ≤ u) (h2 : (u : Int) < 18446744073709551616) (ct : ∀ n : Nat, n < 20 → w.cell? ⟨1, n, none⟩ = some (.int .u64 ((10 ^ n : Nat) : Int))) :
    Calls Tryd.prog 25 #[.int .u64 u] w fun e w' => e = .returned (.int .i64 (Lib.nDigits u)) ∧ w' = w := by
  obtain ⟨e1, e2⟩ := Lib.numDigits_eq u h1 (by omega)
  obtain ⟨L, hL⟩ : ∃ L, L = Lib.bitLen u := ⟨_, rfl⟩
  obtain ⟨l, hl⟩ : ∃ l, l = Lib.l10 L := ⟨_, rfl⟩
  have hL64 : L ≤ 64 := by rw [hL]; exact Lib.bitLen_le u 64 (by omega) (by omega)
  have e1' : l + b2n (decide (((10 ^ l : Nat) : Int) ≤ (u : Int))) = Lib.nDigits u := by
    rw [← e1, ← hL, ← hl]
    by_cases h : 10 ^ l ≤ u
    · have : (((10 ^ l : Nat) : Int) ≤ (u : Int)) := by omega
      rw [if_pos h, decide_eq_true this]; rfl
    · have : ¬ (((10 ^ l : Nat) : Int) ≤ (u : Int)) := by omega
      rw [if_neg h, decide_eq_false this]; rfl
  have cl := ct l (by rw [hl, hL]; omega)
  have hl19 : (l : Int) ≤ 19 := by rw [hl, hL]; omega
  have HE : Hid _ := e1'
  have HLe : Hid ((L : Int) * 78913 / 262144 = (l : Int)) := by rw [hl]; show (L : Int) * 78913 / 262144 = ((L * 78913 / 262144 : Nat) : Int); omega
  have HB : Hid (Lib.bitLen (u : Int).toNat = L) := by rw [hL]; rfl
  have hb1 : b2n (decide (((10 ^ l : Nat) : Int) ≤ (u : Int))) ≤ 1 := by unfold b2n; split <;> omega
  clear ct e1 e2 e1' hl hL
  generalize ((10 ^ l : Nat) : Int) = T at *
  go_enter Tryd.func25, Tryd.ntmps25
  go_wp2_with fail
  refine (Tryd.bits_Len64 u _ (by omega) (by omega)).mono ?_
  rintro e w' ⟨rfl, rfl⟩
  rw [HB.out]
  go_wp2_with fail
  refine (log10Pow2_any L l _ (by omega) (by omega) HLe).mono ?_
  rintro e w' ⟨rfl, rfl⟩
  go_wp2_with fail
  refine (bool2i_any _ _).mono ?_
  rintro e w' ⟨rfl, rfl⟩
  go_wp2_with fail
  go_ret
  exact ⟨ret_int (by have := HE.out; omega), rfl⟩

theorem hide {p : Prop} (h : p) : Hid p := h
theorem unhide {p : Prop} (h : Hid p) : p := h
theorem below_putRow (w : World) (B : Nat) (dk : Array UInt8) (n : Nat) : Below B w ((putRow (fun (b : UInt8) => Value.int .u8 (b.toNat : Int)) w B 0 dk).drewN n) := by
  have h : Below B w (putRow (fun (b : UInt8) => Value.int .u8 (b.toNat : Int)) w B 0 dk) := by
    refine ⟨rfl, rfl, rfl, ?_, ?_⟩
    · simp [putRow, mapBlock]
    · intro k hk
      show (w.heap.modify B _)[k]? = _
      rw [Array.getElem?_modify, if_neg (by omega)]
  exact below_drewN h n
theorem formatBase10_any (us N B : Nat) (w : World) (hN : N = Lib.nDigits us) (hN24 : N ≤ 24) (hus : us < 18446744073709551616)
    (hb : ∀ j, j < 24 → w.cell? ⟨B, j, none⟩ = some (.int .u8 0)) (hf : ∀ j, j < 24 → w.frozen? ⟨B, j, none⟩ = false) :
    Calls Tryd.prog 43 #[.slice (some ⟨B, 0, none⟩) N 24, .int .u64 us] w fun e w' => e = .returned (.tuple #[]) ∧
      (∀ t, t < N → w'.cell? ⟨B, t, none⟩ = some (.int .u8 (Lib.dg us (N - 1 - t)).toNat)) ∧ Below B w w' := by
  have hu10 : us < 10 ^ N := by rw [hN]; exact Lib.lt_pow_nDigits us
  have hH : Holds (fun (b : UInt8) => Value.int .u8 (b.toNat : Int)) w B 0 (Array.replicate N (0 : UInt8)) := fun j hj => by
    have hj' : j < N := by simpa using hj
    have e0 : (Array.replicate N (0 : UInt8))[j]! = 0 := by rw [getElem!_pos _ j hj]; simp
    rw [Nat.zero_add, e0]
    exact ⟨hb j (by omega), hf j (by omega)⟩
  have hF := Tryd.internal_strconv_formatBase10 B 0 24 us (Array.replicate N (0 : UInt8)) w hH (by simpa using hu10) hus (by simp; omega)
  simp only [Array.size_replicate] at hF
  refine hF.mono ?_
  rintro e w' ⟨rfl, n, v', dk, rfl, hI⟩
  refine ⟨rfl, fun t ht => ?_, below_putRow _ _ _ _⟩
  have hsz : dk.size = (Array.replicate N (0 : UInt8)).size := by rw [hI.size]; simp
  have := (holds_putRow _ w B 0 _ dk hH hsz) t (by rw [hI.size]; exact ht)
  rw [Nat.zero_add, hI.done t (Nat.zero_le _) ht] at this
  exact this.1
set_option maxHeartbeats 800000 in
theorem setDigits_any (us N B : Nat) (w : World) (hN : N = Lib.nDigits us) (hN24 : (N : Int) ≤ 24) (hus : us < 18446744073709551616)
    (hb : ∀ j, j < 24 → w.cell? ⟨B, j, none⟩ = some (.int .u8 0)) (hf : ∀ j, j < 24 → w.frozen? ⟨B, j, none⟩ = false) :
    Calls Tryd.prog 24 #[.slice (some ⟨B, 0, none⟩) 24 24, .int .u64 us, .int .i64 (-3), .int .i64 N] w fun e w' =>
      (∃ nz : Nat, nz ≤ N ∧ e = .returned (.tuple #[.int .i64 ((N : Int) - 3), .int .i64 nz]) ∧ (∀ t, nz ≤ t → t < N → Lib.dg us (N - 1 - t) = 48)) ∧
      (∀ t, t < N → w'.cell? ⟨B, t, none⟩ = some (.int .u8 (Lib.dg us (N - 1 - t)).toNat)) ∧ Below B w w' := by
  have HF := hide (formatBase10_any us N B w hN (by omega) hus hb hf)
  clear hb hf hN
  generalize hD : Lib.dg us = D at *
  go_enter Tryd.func24, Tryd.ntmps24
  go_wp2_with fail
  refine (unhide HF).mono ?_
  rintro e w1 ⟨rfl, hc, hbl⟩
  have HC : Hid _ := hc; clear hc HF
  have HBl : Hid _ := hbl; clear hbl
  go_wp2_with fail
  go_loop [3] (fun v => ∃ k : Nat, k ≤ N ∧ v = .int .i64 k ∧ (∀ t, k ≤ t → t < N → D (N - 1 - t) = 48)) (fun v => (intOf v).toNat)
  case atStart => exact ⟨N, Nat.le_refl _, rfl, fun t h1 h2 => by omega⟩
  case round =>
    obtain ⟨k, hk, rfl, hz⟩ := hrel
    have HZ : Hid _ := hz; clear hz
    by_cases hk0 : 0 < k
    · have hck := HC.out (k - 1) (by omega)
      obtain ⟨j, rfl⟩ : ∃ j, k = j + 1 := ⟨k - 1, by omega⟩
      simp only [Nat.add_sub_cancel] at hck
      go_wp2_with fail
      · have h48 : (((D (N - 1 - j)).toNat : Int) == 48) = true := by assumption
        go_round
        case rel =>
          refine ⟨j, by omega, rfl, fun t h1 h2 => ?_⟩
          by_cases ht : t = j
          · subst ht
            have : (D (N - 1 - t)).toNat = 48 := by simp only [beq_iff_eq] at h48; omega
            exact UInt8.toNat_inj.1 this
          · exact HZ.out t (by omega) h2
        case measure => simp [intOf]
      · go_ret2
        exact ⟨⟨j + 1, hk, rfl, HZ.out⟩, HC.out, HBl.out⟩
    · have hk1 : k = 0 := by omega
      subst hk1
      go_wp2_with fail
      go_ret2
      exact ⟨⟨0, Nat.zero_le _, rfl, HZ.out⟩, HC.out, HBl.out⟩
end Go.Proofs.Qxb6614386aDoor
