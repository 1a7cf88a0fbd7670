/-
  internal/strconv.ftoa64 at f, prec 3, on the words of us/1000.
-/
import Derived.Test.Qxb6614386aDoorW7
import Derived.Deep.RegionHeld3
import Derived.Deep.DrawnRows
import Derived.Lib.ItoaMem
namespace Go.Proofs.Qxb6614386aDoor
open Go.RowKit Ms Go.Sort
theorem run_f64bits (b : Nat) (w : World) : (callFunc 18 #[.float .f64 b]).run Tryd.prog w = .ok (.value (.int .u64 b)) w := by kernel_rfl
theorem bitLen53 (M : Nat) (h0 : 2 ^ 52 ≤ M) (h1 : M < 2 ^ 53) : Lib.bitLen M = 53 := by
  obtain ⟨a, b, c⟩ := Lib.bitLenAux_bounds 64 M (by omega) (by omega)
  have e : Lib.bitLen M = Lib.bitLenAux 64 M := rfl
  rw [e]
  generalize Lib.bitLenAux 64 M = L at *
  have c1 : ¬ L ≤ 52 := fun h => by
    have : 2 ^ L ≤ 2 ^ 52 := Nat.pow_le_pow_right (by decide) h
    omega
  have c2 : ¬ 54 ≤ L := fun h => by
    have : 2 ^ 53 ≤ 2 ^ (L - 1) := Nat.pow_le_pow_right (by decide) (by omega)
    omega
  omega
theorem own_lt {D : Nat} {l : List UInt8} {w : World} (h : Own D l w) : D < w.heap.size := (World.ownsRow.lt h D rfl).2
theorem own_below {D B : Nat} {l : List UInt8} {w w' : World} (h : Own D l w) (hb : Below B w w') (hD : D < B) : Own D l w' := by
  obtain ⟨h1, h2⟩ := h
  refine ⟨h1, ?_⟩
  rcases h2 with h2 | ⟨g, cap, cur, hv, hbg, hg, hr⟩
  · exact .inl h2
  · have e : g = D := by
      simp only [Value.slice.injEq, Option.some.injEq, Addr.mk.injEq, and_true] at hv
      exact hv.1.symm
    subst e
    exact .inr ⟨g, cap, cur, hv, hbg, (hb.block g hD).trans hg, hr⟩
theorem below_drew {B : Nat} {w : World} : Below B w w.drew := ⟨rfl, rfl, rfl, Nat.le_refl _, fun _ _ => rfl⟩
theorem below_grown {D : Nat} {w w' : World} (h : w.grownBy w' (some D)) (hD : D ≤ w.heap.size) : Below D w w' :=
  ⟨h.os, h.tape, h.output, h.size, fun k hk => h.block k (by omega) (by intro e; have := Option.some.inj e; omega)⟩
set_option maxRecDepth 100000 in
set_option maxHeartbeats 2000000 in
theorem ftoa64_low (D b k M mf us : Nat) (neg : Bool) (w : World) (hb : b < 18446744073709551616) (hs : ((b : Int) / 9223372036854775808 != 0) = neg) (hE : bits BinOp.and IntKind.i64 ((b : Int) / 4503599627370496) 2047 = 1075 - (k : Int))
    (hMf : bits BinOp.and IntKind.u64 (b : Int) 4503599627370495 = (mf : Int)) (hOr : bits BinOp.or IntKind.u64 (mf : Int) 4503599627370496 = (M : Int)) (hM0 : (4503599627370496 : Int) ≤ M) (hM1 : (M : Int) ≤ 9007199254740991)
    (hk0 : (10 : Int) ≤ k) (hk : (k : Int) ≤ 52) (hus1 : 1 ≤ us) (hus : us ≤ 8700000000000000) (b0 : 1000 * M ≤ us * 2 ^ k + 500) (b1 : us * 2 ^ k ≤ 1000 * M + 500) (ht : Tabs w) (hown : Own D [] w) :
    Calls Tryd.prog 16 #[.slice (some ⟨D, 0, none⟩) 0 24, .float .f64 b, .int .u8 102, .int .i64 3] w fun e w' =>
      e = .returned (.slice (some ⟨D, 0, none⟩) (msText neg us).length 24) ∧ Own D (msText neg us) w' ∧ Below D w w' := by
  subst hs
  generalize hQ : (fun (e : Ending) (w' : World) => e = .returned (.slice (some ⟨D, 0, none⟩) (msText ((b : Int) / 9223372036854775808 != 0) us).length 24) ∧ Own D (msText ((b : Int) / 9223372036854775808 != 0) us) w' ∧ Below D w w') = Q
  have HQ : Hid _ := hQ; clear hQ
  have hfl := run_f64bits b
  have hopt := ht.opt
  have HB0 : Hid _ := b0; clear b0
  have HB1 : Hid _ := b1; clear b1
  have HNK : Hid ((1 + (1075 - (k : Int) + -1023)) * 78913 / 262144 = (nK k : Int) - 4) := by have := nK_low k (by omega); rw [show (1 + (1075 - (k : Int) + -1023)) = 53 - k by omega]; exact this
  obtain ⟨n1, n16, h3⟩ := nK_at k (by omega) (by omega)
  clear h3
  obtain ⟨nn, hnn⟩ : ∃ nn, nK k = nn := ⟨_, rfl⟩
  rw [hnn] at HNK n1 n16
  have hn1 : (1 : Int) ≤ nn := by omega
  have hn16 : (nn : Int) ≤ 16 := by omega
  have HN : Hid _ := hnn; clear hnn
  have hus1' : (1 : Int) ≤ us := by omega
  have HU1 : Hid _ := hus1; clear hus1
  have HU : Hid _ := hus; clear hus
  clear n1 n16
  have HLen : Hid (Lib.bitLen M = 53) := bitLen53 M (by omega) (by omega)
  go_enter Tryd.func16, Tryd.ntmps16
  go_wp2_with fail
  go_quiet (fail)
  go_wp2_with fail
  refine (log10Pow2_any _ _ _ (by omega) (by omega) HNK).mono ?_
  rintro e w' ⟨rfl, rfl⟩
  go_wp2_with fail
  refine (Tryd.bits_Len64 M _ (by omega) (by omega)).mono ?_
  rintro e w' ⟨rfl, rfl⟩
  rw [show Lib.bitLen ((M : Int).toNat) = 53 from HLen.out]
  go_wp2_with fail
  rw [show ((M : Int) * 2048) = ((M * 2048 : Nat) : Int) by omega, show (1075 - (k : Int) + -1023 - 11 - 52) = -11 - (k : Int) by omega, show (1 + ((nn : Int) - 4) + 3) = (nn : Int) by omega]
  have hb1 : ∀ (nq : Nat) (o : Obj), Below w.heap.size w ((w.drewN nq).alloc o) := fun nq o => (below_drewN (Below.refl _ _) nq).alloc (Nat.le_refl _) o
  rw [← HN.out]
  refine (fwf_any M k us _ (by omega) (by omega) (by omega) HU1.out HU.out HB0.out HB1.out (ht.below ht.big (hb1 _ _))).mono ?_
  rintro e w2 ⟨rfl, hw2⟩
  have hz24 : ∀ j, j < 24 → w2.cell? ⟨w.heap.size, j, none⟩ = some (.int .u8 0) := fun j hj => by
    rw [hw2.cell (p := ⟨w.heap.size, j, none⟩) (by simp), World.cell?_alloc_at _ _ _ _ (by simp)]
    exact Lib.zeros24_at j hj
  have hf24 : ∀ j, j < 24 → w2.frozen? ⟨w.heap.size, j, none⟩ = false := fun j hj => by
    rw [hw2.frozen (p := ⟨w.heap.size, j, none⟩) (by simp), World.frozen?_alloc_at _ _ _ _ (by simp)]
  have htab := ht.below ht.big (hb1 _ _ |>.trans (hw2.mono (by simp)))
  have HW2 : Hid _ := hw2
  have hb1' := hb1
  have HB' : Hid _ := hb1'; clear hb1'
  clear hw2 hb1
  have hnd := nDigits_le16 us HU.out
  have HDig := hide (numDigits_any us w2.drew HU1.out (by have := HU.out; omega) htab.ten)
  have HSet := hide (setDigits_any us (Lib.nDigits us) w.heap.size w2.drew rfl (by omega) (by have := HU.out; omega) hz24 hf24)
  clear hz24 hf24 htab hnd
  go_wp2_with fail
  go_region_held3 (fun _ => True) (trivial) ((first | (go_at_call 25; refine (unhide HDig).mono ?_; rintro e w' ⟨rfl, rfl⟩) | (go_at_call 24; refine (unhide HSet).mono ?_; rintro e w3 ⟨⟨nz, hnz, rfl, hzz⟩, hcells, hb3⟩)))
  have hbw : Below w.heap.size w w3 := ((HB'.out _ _).trans (HW2.out.mono (by simp))).trans (below_drew.trans hb3)
  have hown3 := own_below hown hbw (own_lt hown)
  go_wp2_with fail
  refine (fmtF_any _ D w.heap.size us nz w3 HU1.out HU.out hnz hzz hown3 (by have := own_lt hown; omega) hcells).mono ?_
  rintro e w4 ⟨rfl, hown4, hg4⟩
  go_wp2_with fail
  rw [← HQ.out]
  exact ⟨rfl, hown4, (hbw.mono (by have := own_lt hown; omega)).trans (below_grown hg4 (by have := own_lt hown3; omega))⟩
set_option maxRecDepth 100000 in
set_option maxHeartbeats 2000000 in
theorem ftoa64_high (D b k M mf us : Nat) (neg : Bool) (w : World) (hb : b < 18446744073709551616) (hs : ((b : Int) / 9223372036854775808 != 0) = neg) (hE : bits BinOp.and IntKind.i64 ((b : Int) / 4503599627370496) 2047 = 1075 - (k : Int))
    (hMf : bits BinOp.and IntKind.u64 (b : Int) 4503599627370495 = (mf : Int)) (hOr : bits BinOp.or IntKind.u64 (mf : Int) 4503599627370496 = (M : Int)) (hM0 : (4503599627370496 : Int) ≤ M) (hM1 : (M : Int) ≤ 9007199254740991)
    (hk0 : (53 : Int) ≤ k) (hk : (k : Int) ≤ 62) (hus1 : 1 ≤ us) (hus : us ≤ 8700000000000000) (b0 : 1000 * M ≤ us * 2 ^ k + 500) (b1 : us * 2 ^ k ≤ 1000 * M + 500) (ht : Tabs w) (hown : Own D [] w) :
    Calls Tryd.prog 16 #[.slice (some ⟨D, 0, none⟩) 0 24, .float .f64 b, .int .u8 102, .int .i64 3] w fun e w' =>
      e = .returned (.slice (some ⟨D, 0, none⟩) (msText neg us).length 24) ∧ Own D (msText neg us) w' ∧ Below D w w' := by
  subst hs
  generalize hQ : (fun (e : Ending) (w' : World) => e = .returned (.slice (some ⟨D, 0, none⟩) (msText ((b : Int) / 9223372036854775808 != 0) us).length 24) ∧ Own D (msText ((b : Int) / 9223372036854775808 != 0) us) w' ∧ Below D w w') = Q
  have HQ : Hid _ := hQ; clear hQ
  have hfl := run_f64bits b
  have hopt := ht.opt
  have HB0 : Hid _ := b0; clear b0
  have HB1 : Hid _ := b1; clear b1
  have HNK : Hid ((-(1075 - (k : Int) + -1023)) * 78913 / 262144 = 4 - (nK k : Int)) := by have := nK_high k (by omega) (by omega); rw [show (-(1075 - (k : Int) + -1023)) = (k : Int) - 52 by omega]; exact this
  obtain ⟨n1, n16, h3⟩ := nK_at k (by omega) (by omega)
  clear h3
  obtain ⟨nn, hnn⟩ : ∃ nn, nK k = nn := ⟨_, rfl⟩
  rw [hnn] at HNK n1 n16
  have hn1 : (1 : Int) ≤ nn := by omega
  have hn16 : (nn : Int) ≤ 16 := by omega
  have HN : Hid _ := hnn; clear hnn
  have hus1' : (1 : Int) ≤ us := by omega
  have HU1 : Hid _ := hus1; clear hus1
  have HU : Hid _ := hus; clear hus
  clear n1 n16
  have HLen : Hid (Lib.bitLen M = 53) := bitLen53 M (by omega) (by omega)
  go_enter Tryd.func16, Tryd.ntmps16
  go_wp2_with fail
  go_quiet (fail)
  go_wp2_with fail
  refine (log10Pow2_any _ _ _ (by omega) (by omega) HNK).mono ?_
  rintro e w' ⟨rfl, rfl⟩
  go_wp2_with fail
  refine (Tryd.bits_Len64 M _ (by omega) (by omega)).mono ?_
  rintro e w' ⟨rfl, rfl⟩
  rw [show Lib.bitLen ((M : Int).toNat) = 53 from HLen.out]
  go_wp2_with fail
  rw [show ((M : Int) * 2048) = ((M * 2048 : Nat) : Int) by omega, show (1075 - (k : Int) + -1023 - 11 - 52) = -11 - (k : Int) by omega, show (4 - (4 - (nn : Int))) = (nn : Int) by omega]
  have hb1 : ∀ (nq : Nat) (o : Obj), Below w.heap.size w ((w.drewN nq).alloc o) := fun nq o => (below_drewN (Below.refl _ _) nq).alloc (Nat.le_refl _) o
  rw [← HN.out]
  refine (fwf_any M k us _ (by omega) (by omega) (by omega) HU1.out HU.out HB0.out HB1.out (ht.below ht.big (hb1 _ _))).mono ?_
  rintro e w2 ⟨rfl, hw2⟩
  have hz24 : ∀ j, j < 24 → w2.cell? ⟨w.heap.size, j, none⟩ = some (.int .u8 0) := fun j hj => by
    rw [hw2.cell (p := ⟨w.heap.size, j, none⟩) (by simp), World.cell?_alloc_at _ _ _ _ (by simp)]
    exact Lib.zeros24_at j hj
  have hf24 : ∀ j, j < 24 → w2.frozen? ⟨w.heap.size, j, none⟩ = false := fun j hj => by
    rw [hw2.frozen (p := ⟨w.heap.size, j, none⟩) (by simp), World.frozen?_alloc_at _ _ _ _ (by simp)]
  have htab := ht.below ht.big (hb1 _ _ |>.trans (hw2.mono (by simp)))
  have HW2 : Hid _ := hw2
  have hb1' := hb1
  have HB' : Hid _ := hb1'; clear hb1'
  clear hw2 hb1
  have hnd := nDigits_le16 us HU.out
  have HDig := hide (numDigits_any us w2.drew HU1.out (by have := HU.out; omega) htab.ten)
  have HSet := hide (setDigits_any us (Lib.nDigits us) w.heap.size w2.drew rfl (by omega) (by have := HU.out; omega) hz24 hf24)
  clear hz24 hf24 htab hnd
  go_wp2_with fail
  go_region_held3 (fun _ => True) (trivial) ((first | (go_at_call 25; refine (unhide HDig).mono ?_; rintro e w' ⟨rfl, rfl⟩) | (go_at_call 24; refine (unhide HSet).mono ?_; rintro e w3 ⟨⟨nz, hnz, rfl, hzz⟩, hcells, hb3⟩)))
  have hbw : Below w.heap.size w w3 := ((HB'.out _ _).trans (HW2.out.mono (by simp))).trans (below_drew.trans hb3)
  have hown3 := own_below hown hbw (own_lt hown)
  go_wp2_with fail
  refine (fmtF_any _ D w.heap.size us nz w3 HU1.out HU.out hnz hzz hown3 (by have := own_lt hown; omega) hcells).mono ?_
  rintro e w4 ⟨rfl, hown4, hg4⟩
  go_wp2_with fail
  rw [← HQ.out]
  exact ⟨rfl, hown4, (hbw.mono (by have := own_lt hown; omega)).trans (below_grown hg4 (by have := own_lt hown3; omega))⟩
end Go.Proofs.Qxb6614386aDoor
