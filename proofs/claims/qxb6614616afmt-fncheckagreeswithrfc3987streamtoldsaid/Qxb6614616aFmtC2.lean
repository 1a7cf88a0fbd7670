/-
  The tests on characters: isUCSChar, isPrivate, iriB1Ucs, iriB1Private, iriB1AsciiAllowed.
-/
import Derived.Test.Qxb6614616aFmtC1
namespace Go.Proofs.Qxb6614616aFmt
open Go.RowKit
set_option linter.unusedSimpArgs false
def ucsG (r : Nat) : Bool := decide ((160 ≤ r ∧ r ≤ 55295) ∨ (63744 ≤ r ∧ r ≤ 64975) ∨ (65008 ≤ r ∧ r ≤ 65519) ∨ (65536 ≤ r ∧ r ≤ 983037 ∧ ¬ (917504 ≤ r ∧ r < 921600) ∧ r % 65536 ≤ 65533))
def prvG (r : Nat) : Bool := decide ((57344 ≤ r ∧ r ≤ 63743) ∨ (983040 ≤ r ∧ r ≤ 1048573) ∨ (1048576 ≤ r ∧ r ≤ 1114109))
def allow (c : Nat) : Bool := unrD c || resD c || decide (c = 37)
theorem i32_keeps (n : Int) (h0 : 0 ≤ n) (h1 : n < 2 ^ 31) : IntKind.i32.wrap n = n := wraps_i32 n h0 h1
theorem and16 (r : Nat) (h : r ≤ 1114111) : bits BinOp.and IntKind.i32 (r : Int) 65535 = ((r % 65536 : Nat) : Int) := by
  have := bits_mask .i32 31 (by decide) i32_keeps 16 (by decide) (r : Int) (by omega) (by omega)
  rw [show ((2 : Int) ^ 16 - 1) = 65535 from rfl, show ((2 : Int) ^ 16) = 65536 from rfl] at this
  rw [this]
  omega
set_option maxRecDepth 100000 in
set_option maxHeartbeats 800000 in
theorem isUCS_any (r : Nat) (w : World) (h : (r : Int) ≤ 1114111) :
    Calls Tryf.prog 24 #[.int .i32 r] w fun e w' => e = .returned (.bool (ucsG r)) ∧ w' = w := by
  have h16 := and16 r (by omega)
  have hm : r % 65536 < 65536 := Nat.mod_lt _ (by decide)
  go_enter Tryf.func24, Tryf.ntmps24
  go_wp2
  all_goals
    go_ret
    refine ⟨ret_bool ?_, rfl⟩
    try simp only [beq_iff_eq, beq_eq_false_iff_ne, ne_eq, decide_eq_true_eq, Bool.or_eq_true, Bool.and_eq_true] at *
    unfold ucsG
    first | exact (decide_eq_true (by omega)).symm | exact (decide_eq_false (by omega)).symm | (rw [Bool.eq_iff_iff]; simp only [Bool.or_eq_true, Bool.and_eq_true, decide_eq_true_eq]; omega)
set_option maxRecDepth 100000 in
set_option maxHeartbeats 800000 in
theorem isPrivate_any (r : Nat) (w : World) :
    Calls Tryf.prog 25 #[.int .i32 r] w fun e w' => e = .returned (.bool (prvG r)) ∧ w' = w := by
  go_enter Tryf.func25, Tryf.ntmps25
  go_wp2
  all_goals
    go_ret
    refine ⟨ret_bool ?_, rfl⟩
    unfold prvG
    first | exact (decide_eq_true (by omega)).symm | exact (decide_eq_false (by omega)).symm | (rw [Bool.eq_iff_iff]; simp only [Bool.or_eq_true, Bool.and_eq_true, decide_eq_true_eq]; omega)
set_option maxRecDepth 100000 in
set_option maxHeartbeats 800000 in
theorem b1Private_any (r : Nat) (w : World) :
    Calls Tryf.prog 17 #[.int .i32 r] w fun e w' => e = .returned (.bool (prvG r)) ∧ w' = w := by
  go_enter Tryf.func17, Tryf.ntmps17
  go_wp2
  all_goals
    go_ret
    refine ⟨ret_bool ?_, rfl⟩
    unfold prvG
    first | exact (decide_eq_true (by omega)).symm | exact (decide_eq_false (by omega)).symm | (rw [Bool.eq_iff_iff]; simp only [Bool.or_eq_true, Bool.and_eq_true, decide_eq_true_eq]; omega)
set_option maxRecDepth 100000 in
set_option maxHeartbeats 1600000 in
theorem b1Ucs_any (r : Nat) (w : World) (h : (r : Int) ≤ 1114111) :
    Calls Tryf.prog 18 #[.int .i32 r] w fun e w' => e = .returned (.bool (ucsG r)) ∧ w' = w := by
  by_cases ha : ((160 ≤ r ∧ r ≤ 55295) ∨ (63744 ≤ r ∧ r ≤ 64975) ∨ (65008 ≤ r ∧ r ≤ 65519) ∨ (921600 ≤ r ∧ r ≤ 983037))
  · rcases ha with ha | ha | ha | ha
    all_goals
      obtain ⟨h1, h2⟩ := ha
      go_enter Tryf.func18, Tryf.ntmps18
      go_wp2
      go_ret
      exact ⟨ret_bool ((decide_eq_true (by omega)).symm), rfl⟩
  · have HA : Hid _ := ha
    have hr : ((0 : Int) ≤ r ∧ (r : Int) ≤ 159) ∨ ((55296 : Int) ≤ r ∧ (r : Int) ≤ 63743) ∨ ((64976 : Int) ≤ r ∧ (r : Int) ≤ 65007) ∨ ((65520 : Int) ≤ r ∧ (r : Int) ≤ 921599) ∨ ((983038 : Int) ≤ r ∧ (r : Int) ≤ 1114111) := by omega
    clear ha
    rcases hr with hr | hr | hr | hr | hr
    all_goals
      obtain ⟨h1, h2⟩ := hr
      go_enter Tryf.func18, Tryf.ntmps18
      go_wp2
      go_loop [3] (fun p => ∃ k : Nat, 1 ≤ k ∧ k ≤ 14 ∧ p = .int .i32 k ∧ Hid (∀ t, 1 ≤ t → t < k → ¬ (t * 65536 ≤ r ∧ r ≤ t * 65536 + 65533))) (fun p => 14 - (intOf p).toNat)
      case atStart => exact ⟨1, by omega, by omega, rfl, fun t h1 h2 => by omega⟩
      case round =>
        clear h1 h2 h
        obtain ⟨k, hk1, hk2, rfl, hz⟩ := hrel
        by_cases hk : k ≤ 13
        · obtain ⟨m, hm⟩ : ∃ m, m = k * 65536 := ⟨_, rfl⟩
          have hs : Op.shift .shl .i32 (k : Int) .u64 16 = pure (.int .i32 (m : Int)) := by
            rw [shift_shl .i32 .u64 (k : Int) 16 (by decide) (by decide), show ((16 : Int).toNat) = 16 from rfl, i32_keeps _ (by omega) (by omega)]
            congr 2
            omega
          obtain ⟨m2, hm2⟩ : ∃ m2, m2 = m + 65533 := ⟨_, rfl⟩
          have hw : IntKind.i32.wrap ((m : Int) + 65533) = (m2 : Int) := by
            rw [i32_keeps _ (by omega) (by omega)]; omega
          have hkI : (k : Int) ≤ 13 := by omega
          have HM : Hid _ := hm
          have HM2 : Hid _ := hm2
          clear hm hm2 hk
          by_cases hx : (m : Int) ≤ r
          · by_cases hy : (r : Int) ≤ (m2 : Int)
            · go_wp2
              go_ret
              refine ⟨ret_bool ((decide_eq_true ?_).symm), rfl⟩
              have h1 := HA.out
              have h2 := HM.out
              have h3 := HM2.out
              omega
            · skip
              go_wp2
              go_round
              case rel =>
                refine ⟨k + 1, by omega, by omega, by go_num, fun t h1 h2 => ?_⟩
                by_cases ht : t = k
                · subst ht; have := HM.out; have := HM2.out; omega
                · exact hz.out t h1 (by omega)
              case measure => simp [intOf]; omega
          · skip
            go_wp2
            go_round
            case rel =>
              refine ⟨k + 1, by omega, by omega, by go_num, fun t h1 h2 => ?_⟩
              by_cases ht : t = k
              · subst ht; have := HM.out; have := HM2.out; omega
              · exact hz.out t h1 (by omega)
            case measure => simp [intOf]; omega
        · have hk14 : k = 14 := by omega
          subst hk14
          go_wp2
          go_ret
          refine ⟨ret_bool ((decide_eq_false ?_).symm), rfl⟩
          have h1 := HA.out
          have h3 := hz.out (r / 65536)
          intro h4
          omega
def marks : ByteArray := { data := #[45, 46, 95, 126, 58, 47, 63, 35, 91, 93, 64, 33, 36, 38, 39, 40, 41, 42, 43, 44, 59, 61, 37] }
theorem marks_size : marks.size = 23 := rfl
theorem marks_ok : ∀ k : Fin 23, allow (marks[k.val]'(by have := k.isLt; have := marks_size; omega)).toNat = true := by decide
set_option maxRecDepth 100000 in
theorem marks_all : ∀ c : Fin 256, ((97 ≤ c.val ∧ c.val ≤ 122) ∨ (65 ≤ c.val ∧ c.val ≤ 90) ∨ (48 ≤ c.val ∧ c.val ≤ 57)) ∨ (∃ k : Fin 23, (marks[k.val]'(by have := k.isLt; have := marks_size; omega)).toNat = c.val) ∨ allow c.val = false := by decide
set_option maxRecDepth 100000 in
set_option maxHeartbeats 4000000 in
theorem b1Ascii_any (c : Nat) (w : World) (h : (c : Int) ≤ 255) :
    Calls Tryf.prog 15 #[.int .u8 c] w fun e w' => e = .returned (.bool (allow c)) ∧ w' = w := by
  have hc : c < 256 := by omega
  have HA := hide (marks_all ⟨c, hc⟩)
  by_cases hal : ((97 ≤ c ∧ c ≤ 122) ∨ (65 ≤ c ∧ c ≤ 90) ∨ (48 ≤ c ∧ c ≤ 57))
  · go_enter Tryf.func15, Tryf.ntmps15
    go_wp2
    all_goals first | omega | skip
    all_goals
      go_ret
      refine ⟨ret_bool ?_, rfl⟩
      unfold allow unrD
      rw [decide_eq_true (by omega)]; rfl
  · have HN : Hid _ := hal
    go_enter Tryf.func15, Tryf.ntmps15
    go_wp2
    all_goals first | omega | skip
    all_goals
      go_loop [3] (fun p => ∃ k : Nat, k ≤ 23 ∧ p = .int .i64 k ∧ Hid (∀ t : Fin 23, t.val < k → (marks[t.val]'(by have := t.isLt; have := marks_size; omega)).toNat ≠ c)) (fun p => 23 - (intOf p).toNat)
      case atStart => exact ⟨0, by omega, rfl, fun t h2 => by omega⟩
      case round =>
        obtain ⟨k, hk2, rfl, hz⟩ := hrel
        by_cases hk : k < 23
        · go_wp2
          all_goals first
            | (go_ret
               refine ⟨ret_bool ?_, rfl⟩
               rename_i hq _
               have h1 := marks_ok ⟨k, hk⟩
               have h2 : (marks[k]'(by have := marks_size; omega)).toNat = c := Int.ofNat.inj (eq_of_beq hq)
               rw [← h2]; exact h1.symm)
            | (go_round
               case rel =>
                 refine ⟨k + 1, by omega, by go_num, fun t h2 h3 => ?_⟩
                 by_cases ht : t.val = k
                 · obtain ⟨t, ht2⟩ := t
                   subst ht
                   exact absurd (congrArg Int.ofNat h3) (ne_of_beq_false (by assumption))
                 · exact hz.out t (by omega) h3
               case measure => simp [intOf]; omega)
        · go_wp2
          go_ret
          refine ⟨ret_bool ?_, rfl⟩
          rcases unhide HA with h1 | h1 | h1
          · exact absurd h1 HN.out
          · obtain ⟨t, ht⟩ := h1
            exact absurd ht (hz.out t (by have := t.isLt; omega))
          · exact h1.symm
end Go.Proofs.Qxb6614616aFmt
