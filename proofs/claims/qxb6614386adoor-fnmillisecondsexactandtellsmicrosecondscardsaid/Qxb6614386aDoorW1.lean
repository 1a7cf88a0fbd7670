/-
  THE LEAF WALKS of internal/strconv's unrounded scaling over this dump.
-/
import Derived.Test.Qxb6614386aDoorShelf
import Derived.Test.Qxb6614386aDoorScale
import Derived.WalkKit
import Derived.WalkSpells
import Derived.WalkLawsBesides
import Derived.Deep.QuietTactic
import Derived.BigQuiet
import Derived.Handy
import Derived.Laws.BitsAllLaws
namespace Go.Proofs.Qxb6614386aDoor
open Go.RowKit Ms
theorem ret_int {k : IntKind} {a b : Int} (h : a = b) : Ending.returned (.int k a) = .returned (.int k b) := by rw [h]

set_option maxHeartbeats 400000 in
theorem log10Pow2_any (x L : Int) (w : World) (h0 : -100 ≤ x) (h1 : x ≤ 100) (h : x * 78913 / 262144 = L) :
    Calls Tryd.prog 26 #[.int .i64 x] w fun e w' => e = .returned (.int .i64 L) ∧ w' = w := by
  subst h
  go_enter Tryd.func26, Tryd.ntmps26
  go_wp2
  go_ret
  exact ⟨rfl, rfl⟩
set_option maxHeartbeats 400000 in
theorem log2Pow10_any (x L : Int) (w : World) (h0 : -100 ≤ x) (h1 : x ≤ 100) (h : x * 108853 / 32768 = L) :
    Calls Tryd.prog 37 #[.int .i64 x] w fun e w' => e = .returned (.int .i64 L) ∧ w' = w := by
  subst h
  go_enter Tryd.func37, Tryd.ntmps37
  go_wp2
  go_ret
  exact ⟨rfl, rfl⟩
set_option maxHeartbeats 400000 in
theorem unmin_any (x : Int) (w : World) (h0 : 1 ≤ x) (h1 : x ≤ 1000000000000000000) :
    Calls Tryd.prog 45 #[.int .u64 x] w fun e w' => e = .returned (.int .u64 (x * 4 - 2)) ∧ w' = w := by
  go_enter Tryd.func45, Tryd.ntmps45
  go_wp2
  go_ret
  exact ⟨rfl, rfl⟩
theorem and1_u64 (u : Nat) (h : u < 18446744073709551616) : bits .and .u64 (u : Int) 1 = ((u % 2 : Nat) : Int) := by
  have := u64_and_nat u 1 h (by decide)
  rw [nat_mask1] at this; exact this
theorem or_lt64 {a b : Nat} (ha : a < 18446744073709551616) (hb : b < 18446744073709551616) : a ||| b < 18446744073709551616 :=
  Nat.or_lt_two_pow (n := 64) ha hb
set_option maxHeartbeats 400000 in
theorem round_any (u : Nat) (w : World) (h1 : (u : Int) ≤ 9223372036854775807) :
    Calls Tryd.prog 42 #[.int .u64 u] w fun e w' => e = .returned (.int .u64 (rnd u)) ∧ w' = w := by
  have e1 : bits .and .u64 ((u : Int) / 4) 1 = ((u / 4 % 2 : Nat) : Int) := by
    have := and1_u64 (u / 4) (by omega)
    rw [← this]; rfl
  have hb : u / 4 % 2 < 2 := Nat.mod_lt _ (by omega)
  go_enter Tryd.func42, Tryd.ntmps42
  go_wp2
  go_ret
  exact ⟨ret_int (by unfold rnd; omega), rfl⟩
set_option maxHeartbeats 400000 in
theorem bool2u_any (b : Bool) (w : World) :
    Calls Tryd.prog 57 #[.bool b] w fun e w' => e = .returned (.int .u64 (b2n b)) ∧ w' = w := by
  cases b
  all_goals
    go_enter Tryd.func57, Tryd.ntmps57
    go_wp2
    go_ret
    exact ⟨rfl, rfl⟩
set_option maxHeartbeats 400000 in
theorem bool2q_false (w : World) :
    Calls Tryd.prog 56 #[.bool false] w fun e w' => e = .returned (.int .u64 0) ∧ w' = w := by
  go_enter Tryd.func56, Tryd.ntmps56
  go_wp2
  go_ret
  exact ⟨rfl, rfl⟩
theorem div10_eq (u : Nat) (h1 : (u : Int) ≤ 9223372036854775807) : bits BinOp.or IntKind.u64 (bits BinOp.or IntKind.u64 ((u : Int) / 10) (bits BinOp.and IntKind.u64 (u : Int) 1)) (b2n ((u : Int) % 10 != 0)) = (div10 u : Int) := by
  rw [and1_u64 u (by omega)]
  have e1 : ((u : Int) / 10) = ((u / 10 : Nat) : Int) := by omega
  have e2 : ((u : Int) % 10 != 0) = (u % 10 != 0) := by
    rw [Bool.eq_iff_iff]; simp only [bne_iff_ne, ne_eq]; omega
  have h2 := or_lt64 (a := u / 10) (b := u % 2) (by omega) (by omega)
  have hb : ∀ b : Bool, b2n b < 18446744073709551616 := by decide
  rw [e1, u64_or_nat _ _ (by omega) (by omega), e2, u64_or_nat _ _ h2 (hb _)]
  rfl
set_option maxHeartbeats 400000 in
theorem div_any (u : Nat) (w : World) (h1 : (u : Int) ≤ 9223372036854775807) :
    Calls Tryd.prog 46 #[.int .u64 u, .int .u64 10] w fun e w' => e = .returned (.int .u64 (div10 u)) ∧ ∃ n, w' = w.drewN n := by
  go_enter Tryd.func46, Tryd.ntmps46
  go_wp2
  go_quiet ((go_at_call 57; exact Calls.quiet_of_same (bool2u_any _ _)))
  go_wp2
  go_ret
  exact ⟨ret_int (div10_eq u h1), _, rfl⟩
theorem mul64_hi (x y hi : Nat) (w : World) (hx : x < 18446744073709551616) (hy : y < 18446744073709551616) (h : x * y = hi * 18446744073709551616) :
   Calls Tryd.prog 55 #[.int .u64 x, .int .u64 y] w fun e w' => e = .returned (.tuple #[.int .u64 hi, .int .u64 0]) ∧ w' = w := by
  refine (Tryd.bits_Mul64 x y hx hy w).mono ?_
  rintro e w' ⟨rfl, rfl⟩
  refine ⟨?_, rfl⟩
  rw [h, Nat.mul_div_cancel _ (by decide), Nat.mul_mod_left]; rfl
theorem mul64_0 (x : Nat) (w : World) (hx : x < 18446744073709551616) :
   Calls Tryd.prog 55 #[.int .u64 x, .int .u64 0] w fun e w' => e = .returned (.tuple #[.int .u64 0, .int .u64 0]) ∧ w' = w :=
  mul64_hi x 0 0 w hx (by decide) (by omega)
theorem and63 (s : Nat) (h : s ≤ 63) : bits BinOp.and IntKind.i64 (s : Int) 63 = s := by
  have : ∀ s : Nat, s < 64 → bits BinOp.and IntKind.i64 (s : Int) 63 = s := by decide
  exact this s (by omega)
theorem shl_shr_test (hi s : Nat) (h : hi < 18446744073709551616) : (IntKind.u64.wrap ((hi : Int) / 2 ^ s * 2 ^ s) != (hi : Int)) = (hi % 2 ^ s != 0) := by
  have e : ((hi : Int) / 2 ^ s * 2 ^ s) = ((hi / 2 ^ s * 2 ^ s : Nat) : Int) := by push_cast; rfl
  have h1 := Nat.div_mul_le_self hi (2 ^ s)
  have h2 := Nat.div_add_mod hi (2 ^ s)
  rw [e, IntKind.wrap_u64, Int.emod_eq_of_lt (by omega) (by omega)]
  rw [Nat.mul_comm] at h2
  generalize hi / 2 ^ s * 2 ^ s = a at *
  generalize hi % 2 ^ s = r at *
  rw [Bool.eq_iff_iff]; simp only [bne_iff_ne, ne_eq]; omega
set_option maxHeartbeats 400000 in
theorem uscale_sticky (x h s hi b : Nat) (w : World) (hx : x < 18446744073709551616) (hh : h < 18446744073709551616) (hs : (s : Int) ≤ 63)
   (hm : x * h = hi * 18446744073709551616) (ht : (hi % 2 ^ s != 0) = true) (hi64 : hi < 18446744073709551616)
   (c0 : w.cell? ⟨b, 0, none⟩ = some (.int .u64 h)) (c2 : w.cell? ⟨b, 2, none⟩ = some (.int .i64 s)) :
    Calls Tryd.prog 38 #[.int .u64 x, .pointer (some ⟨b, 0, none⟩)] w fun e w' => e = .returned (.int .u64 (usc hi s)) ∧ ∃ n, w' = w.drewN n := by
  have e63 := and63 s (by omega)
  have M : Hid _ := hm; clear hm
  have T := shl_shr_test hi s hi64
  rw [ht] at T
  have R : Hid (bits .or .u64 ((hi : Int) / 2 ^ s) 1 = usc hi s) := by
    have := u64_or_nat (hi / 2 ^ s) 1 (Nat.lt_of_le_of_lt (Nat.div_le_self _ _) hi64) (by decide)
    unfold usc; rw [ht]; push_cast at this; exact this
  clear ht
  go_enter Tryd.func38, Tryd.ntmps38
  go_wp2_with fail
  refine (mul64_hi x h hi _ hx hh M).mono ?_
  rintro e w' ⟨rfl, rfl⟩
  go_wp2_with fail
  go_ret
  exact ⟨ret_int R.out, 0, rfl⟩
set_option maxHeartbeats 400000 in
theorem uscale_exact (x h s hi b : Nat) (w : World) (hx : x < 18446744073709551616) (hh : h < 18446744073709551616) (hs : (s : Int) ≤ 63)
   (hm : x * h = hi * 18446744073709551616) (ht : (hi % 2 ^ s != 0) = false) (hi64 : hi < 18446744073709551616)
   (c0 : w.cell? ⟨b, 0, none⟩ = some (.int .u64 h)) (c1 : w.cell? ⟨b, 1, none⟩ = some (.int .u64 0)) (c2 : w.cell? ⟨b, 2, none⟩ = some (.int .i64 s)) :
    Calls Tryd.prog 38 #[.int .u64 x, .pointer (some ⟨b, 0, none⟩)] w fun e w' => e = .returned (.int .u64 (usc hi s)) ∧ ∃ n, w' = w.drewN n := by
  have e63 := and63 s (by omega)
  have M : Hid _ := hm; clear hm
  have T := shl_shr_test hi s hi64
  rw [ht] at T
  have R : Hid (bits .or .u64 ((hi : Int) / 2 ^ s) 0 = usc hi s) := by
    have := u64_or_nat (hi / 2 ^ s) 0 (Nat.lt_of_le_of_lt (Nat.div_le_self _ _) hi64) (by decide)
    unfold usc; rw [ht]; push_cast at this; exact this
  clear ht
  go_enter Tryd.func38, Tryd.ntmps38
  go_wp2_with fail
  refine (mul64_hi x h hi _ hx hh M).mono ?_
  rintro e w' ⟨rfl, rfl⟩
  go_wp2_with fail
  refine (mul64_0 x _ hx).mono ?_
  rintro e w' ⟨rfl, rfl⟩
  go_wp2_with fail
  refine (bool2q_false _).mono ?_
  rintro e w' ⟨rfl, rfl⟩
  go_wp2_with fail
  go_quiet ((go_at_call 56; exact Calls.quiet_of_same (bool2q_false _)))
  go_wp2
  go_ret
  exact ⟨ret_int R.out, _, rfl⟩
theorem uscale_any (x h s hi b : Nat) (w : World) (hx : x < 18446744073709551616) (hh : h < 18446744073709551616) (hs : (s : Int) ≤ 63)
   (hm : x * h = hi * 18446744073709551616) (hi64 : hi < 18446744073709551616)
   (c0 : w.cell? ⟨b, 0, none⟩ = some (.int .u64 h)) (c1 : w.cell? ⟨b, 1, none⟩ = some (.int .u64 0)) (c2 : w.cell? ⟨b, 2, none⟩ = some (.int .i64 s)) :
    Calls Tryd.prog 38 #[.int .u64 x, .pointer (some ⟨b, 0, none⟩)] w fun e w' => e = .returned (.int .u64 (usc hi s)) ∧ ∃ n, w' = w.drewN n := by
  cases ht : (hi % 2 ^ s != 0) with
  | true => exact uscale_sticky x h s hi b w hx hh hs hm ht hi64 c0 c2
  | false => exact uscale_exact x h s hi b w hx hh hs hm ht hi64 c0 c1 c2
end Go.Proofs.Qxb6614386aDoor
