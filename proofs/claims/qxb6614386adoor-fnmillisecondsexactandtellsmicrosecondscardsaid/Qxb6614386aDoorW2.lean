/-
  internal/strconv.fixedWidthFloat at 'f', prec 3, on the numbers that us/1000 gives: (us, -3).
-/
import Derived.Test.Qxb6614386aDoorW1
namespace Go.Proofs.Qxb6614386aDoor
open Go.RowKit Ms
set_option maxHeartbeats 800000 in
theorem fwf3 (m hi k us n u : Nat) (T L : Int) (w : World) (hm : m < 18446744073709551616) (hhi : hi < 18446744073709551616) (hmul : m * 18014398509481984000 = hi * 18446744073709551616) (hk0 : 10 ≤ k) (hk : k ≤ 52)
    (hL : (52 - (k : Int)) * 78913 / 262144 = L) (hp : (n : Int) - 1 - L = 3) (hn : (n : Int) ≤ 18) (hu : usc hi (k - 1) = u) (hu1 : (u : Int) < T * 4 - 2) (hr : rnd u = us) (hT0 : 1 ≤ T) (hT : T ≤ 1000000000000000000)
    (c0 : w.cell? ⟨2, 702, none⟩ = some (.int .u64 18014398509481984000)) (c1 : w.cell? ⟨2, 703, none⟩ = some (.int .u64 0)) (ct : w.cell? ⟨1, n, none⟩ = some (.int .u64 T)) (hg : 2 < w.heap.size) :
    Calls Tryd.prog 27 #[.int .u64 m, .int .i64 (-11 - (k : Int)), .int .i64 n, .int .i64 3, .int .u8 102] w fun e w' => e = .returned (.tuple #[.int .u64 us, .int .i64 (-3)]) ∧ Below w.heap.size w w' := by
  have HL : Hid (((-11 - (k : Int) + 63)) * 78913 / 262144 = L) := by rw [show (-11 - (k : Int) + 63) = 52 - k by omega]; exact hL
  clear hL
  have HM : Hid _ := hmul; clear hmul
  have HU : Hid _ := hu; clear hu
  have HR : Hid _ := hr; clear hr
  have ct' : ∀ o, (w.alloc o).cell? ⟨1, n, none⟩ = some (.int .u64 T) := fun o => by rw [World.cell?_alloc_past _ _ _ (by show 1 < _; omega)]; exact ct
  go_enter Tryd.func27, Tryd.ntmps27
  go_wp2_with fail
  refine (log10Pow2_any _ L _ (by omega) (by omega) HL).mono ?_
  rintro e w' ⟨rfl, rfl⟩
  go_wp2_with fail
  refine (log2Pow10_any _ 9 _ (by omega) (by omega) (by decide)).mono ?_
  rintro e w' ⟨rfl, rfl⟩
  go_wp2_with (first | (go_at_call 36; go_in))
  rw [show (-(-11 - (k : Int) + 9 + 3)) = ((k - 1 : Nat) : Int) by omega]
  refine (uscale_any m 18014398509481984000 (k - 1) hi _ _ hm (by decide) (by omega) HM hhi (by simp) (by simp) (by simp)).mono ?_
  rintro e w1 ⟨rfl, nd, hw⟩
  rw [HU.out]
  rw [hw]
  go_wp2_with fail
  refine (unmin_any T _ (by omega) (by omega)).mono ?_
  rintro e w2 ⟨rfl, rfl⟩
  go_wp2_with fail
  refine wp_loop_rounds 1 ?_
  rw [rounds_succ]
  go_wp2_with fail
  refine (round_any u _ (by omega)).mono ?_
  rintro e w2 ⟨rfl, rfl⟩
  rw [HR.out]
  go_wp2
  go_ret2
  exact ⟨rfl, below_drewN ((Below.refl _ _).alloc (Nat.le_refl _) _) _⟩
set_option maxHeartbeats 1600000 in
theorem fwf4 (m hi k us n u : Nat) (T L : Int) (w : World) (hm : m < 18446744073709551616) (hhi : hi < 18446744073709551616) (hmul : m * 11258999068426240000 = hi * 18446744073709551616) (hk0 : 10 ≤ k) (hk : k ≤ 62)
    (hL : (52 - (k : Int)) * 78913 / 262144 = L) (hp : (n : Int) - 1 - L = 4) (hn : (n : Int) ≤ 18) (hu : usc hi (k - 5) = u) (hu1 : (u : Int) ≤ 9223372036854775807) (hu2 : ((div10 u : Nat) : Int) ≤ 9223372036854775807) (hr : rnd (div10 u) = us) (hT0 : 1 ≤ T) (hT : T ≤ 1000000000000000000)
    (c0 : w.cell? ⟨2, 704, none⟩ = some (.int .u64 11258999068426240000)) (c1 : w.cell? ⟨2, 705, none⟩ = some (.int .u64 0)) (ct : w.cell? ⟨1, n, none⟩ = some (.int .u64 T)) (hg : 2 < w.heap.size) :
    Calls Tryd.prog 27 #[.int .u64 m, .int .i64 (-11 - (k : Int)), .int .i64 n, .int .i64 3, .int .u8 102] w fun e w' => e = .returned (.tuple #[.int .u64 us, .int .i64 (-3)]) ∧ Below w.heap.size w w' := by
  have HL : Hid (((-11 - (k : Int) + 63)) * 78913 / 262144 = L) := by rw [show (-11 - (k : Int) + 63) = 52 - k by omega]; exact hL
  clear hL
  have HM : Hid _ := hmul; clear hmul
  have HU : Hid _ := hu; clear hu
  have HR : Hid _ := hr; clear hr
  have ct' : ∀ o, (w.alloc o).cell? ⟨1, n, none⟩ = some (.int .u64 T) := fun o => by rw [World.cell?_alloc_past _ _ _ (by show 1 < _; omega)]; exact ct
  by_cases hc : T * 4 - 2 ≤ (u : Int)
  · go_enter Tryd.func27, Tryd.ntmps27
    go_wp2_with fail
    refine (log10Pow2_any _ L _ (by omega) (by omega) HL).mono ?_
    rintro e w' ⟨rfl, rfl⟩
    go_wp2_with fail
    refine (log2Pow10_any _ 13 _ (by omega) (by omega) (by decide)).mono ?_
    rintro e w' ⟨rfl, rfl⟩
    go_wp2_with (first | (go_at_call 36; go_in))
    rw [show (-(-11 - (k : Int) + 13 + 3)) = ((k - 5 : Nat) : Int) by omega]
    refine (uscale_any m 11258999068426240000 (k - 5) hi _ _ hm (by decide) (by omega) HM hhi (by simp) (by simp) (by simp)).mono ?_
    rintro e w1 ⟨rfl, nd, hw⟩
    rw [HU.out]
    rw [hw]
    go_wp2_with fail
    refine (unmin_any T _ (by omega) (by omega)).mono ?_
    rintro e w2 ⟨rfl, rfl⟩
    go_wp2_with fail
    refine (div_any u _ (by omega)).mono ?_
    rintro e w2 ⟨rfl, nd2, hw2⟩
    rw [hw2]
    go_wp2_with fail
    refine wp_loop_rounds 1 ?_
    rw [rounds_succ]
    go_wp2_with fail
    refine (round_any (div10 u) _ hu2).mono ?_
    rintro e w2 ⟨rfl, rfl⟩
    rw [HR.out]
    go_wp2
    go_ret2
    exact ⟨rfl, below_drewN ((Below.refl _ _).alloc (Nat.le_refl _) _) _⟩
  · go_enter Tryd.func27, Tryd.ntmps27
    go_wp2_with fail
    refine (log10Pow2_any _ L _ (by omega) (by omega) HL).mono ?_
    rintro e w' ⟨rfl, rfl⟩
    go_wp2_with fail
    refine (log2Pow10_any _ 13 _ (by omega) (by omega) (by decide)).mono ?_
    rintro e w' ⟨rfl, rfl⟩
    go_wp2_with (first | (go_at_call 36; go_in))
    rw [show (-(-11 - (k : Int) + 13 + 3)) = ((k - 5 : Nat) : Int) by omega]
    refine (uscale_any m 11258999068426240000 (k - 5) hi _ _ hm (by decide) (by omega) HM hhi (by simp) (by simp) (by simp)).mono ?_
    rintro e w1 ⟨rfl, nd, hw⟩
    rw [HU.out]
    rw [hw]
    go_wp2_with fail
    refine (unmin_any T _ (by omega) (by omega)).mono ?_
    rintro e w2 ⟨rfl, rfl⟩
    go_wp2_with fail
    refine wp_loop_rounds 2 ?_
    rw [rounds_succ]
    go_wp2_with fail
    refine (div_any u _ (by omega)).mono ?_
    rintro e w2 ⟨rfl, nd2, hw2⟩
    rw [hw2]
    go_wp2_with fail
    rw [rounds_succ]
    go_wp2_with fail
    refine (round_any (div10 u) _ hu2).mono ?_
    rintro e w2 ⟨rfl, rfl⟩
    rw [HR.out]
    go_wp2
    go_ret2
    exact ⟨rfl, below_drewN ((Below.refl _ _).alloc (Nat.le_refl _) _) _⟩
end Go.Proofs.Qxb6614386aDoor
