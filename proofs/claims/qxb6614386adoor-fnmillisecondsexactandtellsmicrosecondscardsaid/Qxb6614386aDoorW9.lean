/-
  FormatFloat, Microseconds, milliseconds, ZZmilliseconds: the text of a duration's whole microseconds.
-/
import Derived.Test.Qxb6614386aDoorW8
import Derived.Laws.BytesArg
namespace Go.Proofs.Qxb6614386aDoor
open Go.RowKit Ms Go.Sort
theorem ms0 : msText false 0 = [48, 46, 48, 48, 48] := by
  unfold msText
  rw [show (0 / 1000 : Nat) = 0 from rfl, Lib.decDigits_one (by decide)]
  decide
set_option maxRecDepth 100000 in
set_option maxHeartbeats 2000000 in
theorem ftoa64_zero (D : Nat) (w : World) (hown : Own D [] w) :
    Calls Tryd.prog 16 #[.slice (some ⟨D, 0, none⟩) 0 24, .float .f64 0, .int .u8 102, .int .i64 3] w fun e w' =>
      e = .returned (.slice (some ⟨D, 0, none⟩) (msText false 0).length 24) ∧ Own D (msText false 0) w' ∧ Below D w w' := by
  rw [ms0]
  generalize hQ : (fun (e : Ending) (w' : World) => e = .returned (.slice (some ⟨D, 0, none⟩) (List.length ([48, 46, 48, 48, 48] : List UInt8)) 24) ∧ Own D [48, 46, 48, 48, 48] w' ∧ Below D w w') = Q
  have HQ : Hid _ := hQ; clear hQ
  have hfl := run_f64bits 0
  go_enter Tryd.func16, Tryd.ntmps16
  go_wp2_with fail
  go_quiet (fail)
  go_wp2_with fail
  refine (fmtF_zero D _ (own_below hown (below_drewN (Below.refl _ _) _) (own_lt hown))).mono ?_
  rintro e w4 ⟨rfl, hown4, hg4⟩
  go_wp2_with fail
  rw [← HQ.out]
  exact ⟨rfl, hown4, (below_drewN (Below.refl _ _) _).trans (below_grown hg4 (Nat.le_of_lt (own_lt hown)))⟩
theorem toNat_byte (b : UInt8) : UInt8.ofNat ((b.toNat : Int).toNat) = b := by
  rw [Int.toNat_natCast, UInt8.ofNat_toNat]
theorem own_convert {D : Nat} {l : List UInt8} {w : World} (h : Own D l w) : (convert 32 9 (.slice (some ⟨D, 0, none⟩) l.length 24)).run Tryd.prog w = .ok (.string ⟨l.toArray⟩) w := by
  have e : strOfNums (l.map fun b => (b.toNat : Int)) = ⟨l.toArray⟩ := by
    unfold strOfNums
    rw [List.map_map]
    congr 2
    conv => rhs; rw [← List.map_id l]
    apply List.map_congr_left
    intro b _
    exact toNat_byte b
  have := run_convert_bytes_arg (P := Tryd.prog) w 32 5 Tryd.underlying32 Tryd.underlying5 D 0 l.length 24 (l.map fun b => (b.toNat : Int)) (by simp) (fun i hi => by
    rw [Nat.zero_add, World.ownsRow.cellAt h i (by omega), List.getElem?_map, List.getElem?_eq_getElem hi]
    simp [enc8, List.getD, hi]) 9 Tryd.underlying9
  rw [this, e]
theorem run_make24 (w : World) : (Instr.makeSlice 32 (.int .i64 0) (.int .i64 24)).run Tryd.prog w = .ok (.slice (some ⟨w.heap.size, 0, none⟩) 0 24) (w.alloc (.cells Lib.zeros24 5)) := by kernel_rfl
theorem own_made (w : World) : Own w.heap.size [] (w.alloc (.cells Lib.zeros24 5)) := World.ownsRow_made w _ 24 (Nat.le_refl _) (by decide) rfl
/-- What ftoa64 gives for a word. -/
def Prints (b : Nat) (t : List UInt8) : Prop := ∀ (D : Nat) (W : World), Tabs W → Own D [] W → Calls Tryd.prog 16 #[.slice (some ⟨D, 0, none⟩) 0 24, .float .f64 b, .int .u8 102, .int .i64 3] W fun e w' =>
      e = .returned (.slice (some ⟨D, 0, none⟩) t.length 24) ∧ Own D t w' ∧ Below D W w'
set_option maxRecDepth 100000 in
set_option maxHeartbeats 800000 in
theorem formatFloat_any (b : Nat) (t : List UInt8) (w : World) (H : Prints b t) (ht : Tabs w) :
    Calls Tryd.prog 13 #[.float .f64 b, .int .u8 102, .int .i64 3, .int .i64 64] w fun e w' => e = .returned (.string ⟨t.toArray⟩) ∧ Below w.heap.size w w' := by
  have hmk := run_make24
  have hmx : max (7 : Int) 24 = 24 := by decide
  generalize hZ : Lib.zeros24 = Z at hmk
  have hb1 : Below w.heap.size w (w.alloc (.cells Z 5)) := (Below.refl _ _).alloc (Nat.le_refl _) _
  have HC := hide (H w.heap.size (w.alloc (.cells Z 5)) (ht.below ht.big hb1) (by rw [← hZ]; exact own_made w))
  have HB : Hid _ := hb1; clear hb1 hZ
  go_enter Tryd.func13, Tryd.ntmps13
  go_wp2_with fail
  refine (unhide HC).mono ?_
  rintro e w1 ⟨rfl, hown, hbw⟩
  have hcv := own_convert hown
  go_wp2_with fail
  go_ret
  exact ⟨rfl, HB.out.trans hbw⟩
set_option maxHeartbeats 800000 in
theorem formatFloat_pub (b : Nat) (t : List UInt8) (w : World) (H : Prints b t) (ht : Tabs w) :
    Calls Tryd.prog 11 #[.float .f64 b, .int .u8 102, .int .i64 3, .int .i64 64] w fun e w' => e = .returned (.string ⟨t.toArray⟩) ∧ Below w.heap.size w w' := by
  have HC := hide (formatFloat_any b t w H ht)
  go_enter Tryd.func11, Tryd.ntmps11
  go_wp2_with fail
  refine (unhide HC).mono ?_
  rintro e w1 ⟨rfl, hbw⟩
  go_wp2_with fail
  go_ret
  exact ⟨rfl, hbw⟩
set_option maxHeartbeats 400000 in
theorem micros_any (d : Int) (w : World) (h0 : -8700000000000000000 ≤ d) (h1 : d ≤ 8700000000000000000) :
    Calls Tryd.prog 12 #[.int .i64 d] w fun e w' => e = .returned (.int .i64 (d.tdiv 1000)) ∧ w' = w := by
  go_enter Tryd.func12, Tryd.ntmps12
  go_wp2
  go_ret
  exact ⟨rfl, rfl⟩
set_option maxHeartbeats 800000 in
theorem millis_of (d : Int) (b x : Nat) (t : List UInt8) (w : World) (h0 : -8700000000000000000 ≤ d) (h1 : d ≤ 8700000000000000000) (hx : floatOfInt .f64 (d.tdiv 1000) = x) (hd : FloatKind.f64.format.div x 4652007308841189376 = some b) (H : Prints b t) (ht : Tabs w) :
    Calls Tryd.prog 8 #[.int .i64 d] w fun e w' => e = .returned (.string ⟨t.toArray⟩) ∧ Below w.heap.size w w' := by
  have HC := hide (formatFloat_pub b t w H ht)
  have hq : ∀ w, (binOp .quo 29 (.float .f64 x) (.float .f64 4652007308841189376)).run Tryd.prog w = .ok (.float .f64 b) w := fun w => run_float_arith w .quo 29 .f64 x _ b hd
  go_enter Tryd.func8, Tryd.ntmps8
  go_wp2_with fail
  refine (micros_any d _ h0 h1).mono ?_
  rintro e w' ⟨rfl, rfl⟩
  go_wp2_with fail
  refine (unhide HC).mono ?_
  rintro e w1 ⟨rfl, hbw⟩
  go_wp2_with fail
  go_ret
  exact ⟨rfl, hbw⟩
set_option maxHeartbeats 400000 in
theorem zzmillis_of (d : Int) (b x : Nat) (t : List UInt8) (w : World) (h0 : -8700000000000000000 ≤ d) (h1 : d ≤ 8700000000000000000) (hx : floatOfInt .f64 (d.tdiv 1000) = x) (hd : FloatKind.f64.format.div x 4652007308841189376 = some b) (H : Prints b t) (ht : Tabs w) :
    Calls Tryd.prog 5 #[.int .i64 d] w fun e w' => e = .returned (.string ⟨t.toArray⟩) ∧ Below w.heap.size w w' := by
  have HC := hide (millis_of d b x t w h0 h1 hx hd H ht)
  clear hx hd H
  go_enter Tryd.func5, Tryd.ntmps5
  go_wp2_with fail
  refine (unhide HC).mono ?_
  rintro e w1 ⟨rfl, hbw⟩
  go_wp2_with fail
  go_ret
  exact ⟨rfl, hbw⟩
theorem i64_keeps (n : Int) (h0 : 0 ≤ n) (h1 : n < 2 ^ 63) : IntKind.i64.wrap n = n := by rw [IntKind.wrap_i64]; omega
theorem prints_us (neg : Bool) (us : Nat) (h1 : 1 ≤ us) (h2 : us ≤ 8700000000000000) :
    ∃ b, Ieee.double.div (Ieee.double.nearest neg us 0) 4652007308841189376 = some b ∧ Prints b (msText neg us) := by
  obtain ⟨M, k, m0, m1, k1, k0, b0, b1, hw⟩ := div_word neg us h1 h2
  refine ⟨_, hw, ?_⟩
  generalize hb : Ieee.double.word neg ((1075 - k - 1) * 2 ^ 52 + M) = b
  have hsw : Ieee.double.signWeight = 2 ^ 63 := by decide
  unfold Ieee.Format.word at hb
  rw [hsw] at hb
  have hb' : (neg = true ∧ b = 2 ^ 63 + ((1075 - k - 1) * 2 ^ 52 + M)) ∨ (neg = false ∧ b = (1075 - k - 1) * 2 ^ 52 + M) := by
    cases neg
    · rw [if_neg (by decide)] at hb; exact .inr ⟨rfl, hb.symm⟩
    · rw [if_pos rfl] at hb; exact .inl ⟨rfl, hb.symm⟩
  have hlt : b < 18446744073709551616 := by omega
  have hs : ((b : Int) / 9223372036854775808 != 0) = neg := by
    rcases hb' with ⟨rfl, e⟩ | ⟨rfl, e⟩
    · rw [bne_iff_ne]; omega
    · have : (b : Int) / 9223372036854775808 = 0 := by omega
      rw [this]; rfl
  have hE : bits BinOp.and IntKind.i64 ((b : Int) / 4503599627370496) 2047 = 1075 - (k : Int) := by
    have := bits_mask .i64 63 (by decide) i64_keeps 11 (by decide) ((b : Int) / 4503599627370496) (by omega) (by omega)
    rw [show ((2 : Int) ^ 11 - 1) = 2047 from rfl, show ((2 : Int) ^ 11) = 2048 from rfl] at this
    rw [this]
    omega
  have hMf : bits BinOp.and IntKind.u64 (b : Int) 4503599627370495 = ((M - 2 ^ 52 : Nat) : Int) := by
    have := u64_and_nat b 4503599627370495 hlt (by decide)
    rw [show (4503599627370495 : Nat) = 2 ^ 52 - 1 from rfl, Nat.and_two_pow_sub_one_eq_mod] at this
    rw [show (4503599627370495 : Int) = ((2 ^ 52 - 1 : Nat) : Int) from rfl, this, show b % 2 ^ 52 = M - 2 ^ 52 by omega]
  have hOr : bits BinOp.or IntKind.u64 ((M - 2 ^ 52 : Nat) : Int) 4503599627370496 = (M : Int) := by
    have := u64_or_nat (M - 2 ^ 52) 4503599627370496 (by omega) (by decide)
    rw [show (4503599627370496 : Int) = ((4503599627370496 : Nat) : Int) from rfl, this, Nat.or_comm, nat_join 52 4503599627370496 (M - 2 ^ 52) (by decide) (by omega), show 4503599627370496 + (M - 2 ^ 52) = M by omega]
  intro D W ht hown
  by_cases hk : k ≤ 52
  · exact ftoa64_low D b k M (M - 2 ^ 52) us neg W hlt hs hE hMf hOr (by omega) (by omega) (by omega) (by omega) h1 h2 b0 b1 ht hown
  · exact ftoa64_high D b k M (M - 2 ^ 52) us neg W hlt hs hE hMf hOr (by omega) (by omega) (by omega) (by omega) h1 h2 b0 b1 ht hown
/-- THE TEXT OF A DURATION. -/
def msOf (d : Int) : List UInt8 := msText (decide (d.tdiv 1000 < 0)) (d.tdiv 1000).natAbs
theorem zzmillis_any (d : Int) (w : World) (h0 : -8700000000000000000 ≤ d) (h1 : d ≤ 8700000000000000000) (ht : Tabs w) :
    Calls Tryd.prog 5 #[.int .i64 d] w fun e w' => e = .returned (.string ⟨(msOf d).toArray⟩) ∧ Below w.heap.size w w' := by
  have hub : (d.tdiv 1000).natAbs ≤ 8700000000000000 := by
    rw [Int.natAbs_tdiv]
    show d.natAbs / 1000 ≤ _
    omega
  by_cases hz : (d.tdiv 1000).natAbs = 0
  · have e0 : d.tdiv 1000 = 0 := Int.natAbs_eq_zero.1 hz
    have hp : Prints 0 (msOf d) := by
      unfold msOf
      rw [e0]
      exact fun D W _ ho => ftoa64_zero D W ho
    exact zzmillis_of d 0 _ _ w h0 h1 rfl (by rw [e0]; exact div_zero) hp ht
  · obtain ⟨b, hd, hp⟩ := prints_us (decide (d.tdiv 1000 < 0)) (d.tdiv 1000).natAbs (by omega) hub
    exact zzmillis_of d b _ _ w h0 h1 rfl hd hp ht
end Go.Proofs.Qxb6614386aDoor
