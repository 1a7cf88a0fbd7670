/-
  zzItoa, zzThree, zzMillisModel.
-/
import Derived.Test.Qxb6614386aDoorW10
import Derived.Test.Qxb6614386aDoorInj
namespace Go.Proofs.Qxb6614386aDoor
open Go.RowKit Ms Go.Sort
theorem ret_bool {a b : Bool} (h : a = b) : Ending.returned (.bool a) = .returned (.bool b) := by rw [h]
theorem set_cell (w : World) (b i : Nat) (v u : Value) (h : w.cell? ⟨b, i, none⟩ = some u) (t : Nat) : (w.setCell ⟨b, i, none⟩ v).cell? ⟨b, t, none⟩ = if t = i then some v else w.cell? ⟨b, t, none⟩ := by
  by_cases e : t = i
  · subst e
    rw [if_pos rfl]
    exact World.cell?_setCell_same w _ v h
  · rw [if_neg e]
    exact World.cell?_setCell_other _ _ _ _ (fun h => e (Addr.mk.inj h).2.1.symm)
/-- The buffer of zzItoa: twenty bytes g in block B; below it nothing has turned. -/
structure Buf (w wr : World) (g : Nat → UInt8) : Prop where
  cell : ∀ t, t < 20 → wr.cell? ⟨w.heap.size, t, none⟩ = some (.int .u8 (g t).toNat)
  free : ∀ t, t < 20 → wr.frozen? ⟨w.heap.size, t, none⟩ = false
  below : Below w.heap.size w wr
theorem Buf.set {w wr : World} {g : Nat → UInt8} (h : Buf w wr g) (k : Nat) (hk : k < 20) (c : UInt8) : Buf w (wr.setCell ⟨w.heap.size, k, none⟩ (.int .u8 c.toNat)) (fun t => if t = k then c else g t) := by
  refine ⟨fun t ht => ?_, fun t ht => ?_, h.below.setCell (Nat.le_refl _) _⟩
  · rw [set_cell wr _ _ _ _ (h.cell k hk)]
    by_cases e : t = k
    · rw [if_pos e, if_pos e]
    · rw [if_neg e, if_neg e]; exact h.cell t ht
  · rw [World.frozen?_setCell]; exact h.free t ht
/-- What has been written: the digits of u from place ii on; v is what is left. -/
structure Done (u v ii : Nat) (g : Nat → UInt8) : Prop where
  le : ii ≤ 20
  rest : v = u / 10 ^ (20 - ii)
  count : (20 - ii) + (if v = 0 then 0 else Lib.nDigits v) = Lib.nDigits u
  dig : ∀ t, ii ≤ t → t < 20 → g t = Lib.dg u (19 - t)
theorem Done.step {u v k : Nat} {g : Nat → UInt8} (h : Done u v (k + 1) g) (hv : 0 < v) : Done u (v / 10) k (fun t => if t = k then UInt8.ofNat (48 + v % 10) else g t) := by
  have hle := h.le
  refine ⟨by omega, ?_, ?_, ?_⟩
  · rw [h.rest, Nat.div_div_eq_div_mul, ← Nat.pow_succ]
    congr 2
    omega
  · have hc := h.count
    rw [if_neg (by omega)] at hc
    by_cases h10 : v < 10
    · rw [Lib.nDigits_small h10] at hc
      rw [if_pos (by omega)]
      omega
    · rw [Lib.nDigits_big h10] at hc
      rw [if_neg (by omega)]
      omega
  · intro t ht h20
    by_cases e : t = k
    · simp only [e, if_true]
      unfold Lib.dg
      have e2 : 20 - (k + 1) = 19 - k := by omega
      rw [h.rest, e2]
    · simp only [e, if_false]
      exact h.dig t (by omega) h20
theorem conv_row {W : World} {B off n : Nat} {l : List UInt8} (hl : l.length = n) (h : ∀ i (hi : i < l.length), W.cell? ⟨B, off + i, none⟩ = some (.int .u8 (l[i]'hi).toNat)) (cap : Nat) :
    (convert 32 9 (.slice (some ⟨B, off, none⟩) n cap)).run Tryd.prog W = .ok (.string ⟨l.toArray⟩) W := by
  have e : strOfNums (l.map fun b => (b.toNat : Int)) = ⟨l.toArray⟩ := by
    unfold strOfNums
    rw [List.map_map]
    congr 2
    conv => rhs; rw [← List.map_id l]
    apply List.map_congr_left
    intro b _
    exact toNat_byte b
  have := run_convert_bytes_arg (P := Tryd.prog) W 32 5 Tryd.underlying32 Tryd.underlying5 B off n cap (l.map fun b => (b.toNat : Int)) (by simpa using hl) (fun i hi => by
    rw [h i (by omega)]
    simp [List.getD, show i < l.length by omega]) 9 Tryd.underlying9
  rw [this, e]
theorem len31 : Tryd.prog.arrayLen 31 = 20 := by kernel_rfl
theorem elem31 : Tryd.prog.elem 31 = 5 := by kernel_rfl
theorem und31 : Tryd.prog.underlying 31 = some (.array (Tryd.prog.arrayLen 31) (Tryd.prog.elem 31)) := by kernel_rfl
theorem size5 (w : World) : (sizeOf 5).run Tryd.prog w = .ok 1 w := by kernel_rfl
theorem run_slice31 (B ii : Nat) (h : ii < 20) (w : World) : (Instr.sliceAt 31 (.pointer (some ⟨B, 0, none⟩)) (some (.int .i64 ii)) none none).run Tryd.prog w = .ok (.slice (some ⟨B, ii, none⟩) (20 - ii) (20 - ii)) w := by
  rw [run_sliceAt_array_l w 31 ⟨B, 0, none⟩ und31 .i64 ii (by omega) (by rw [len31]; omega), elem31, size5, len31]
  show Result.ok (Value.slice (some (if 20 = (ii : Int).toNat then (⟨B, 0, none⟩ : Addr) else (⟨B, 0, none⟩ : Addr).add ((ii : Int).toNat * 1))) (20 - (ii : Int).toNat) (20 - (ii : Int).toNat)) w = _
  rw [Int.toNat_natCast, if_neg (by omega), Nat.mul_one, Lib.add_plain, Nat.zero_add]
set_option maxRecDepth 100000 in
set_option maxHeartbeats 800000 in
theorem zzItoa_pos (u : Nat) (w : World) (h1 : (1 : Int) ≤ u) (h2 : (u : Int) ≤ 9223372036854775807) :
    Calls Tryd.prog 9 #[.int .i64 u] w fun e w' => e = .returned (.string ⟨(Lib.decDigits u).toArray⟩) ∧ Below w.heap.size w w' := by
  have hu0 : ((u : Int) == 0) = false := by rw [beq_eq_false_iff_ne]; omega
  have h19 : Lib.nDigits u ≤ 19 := by
    have h1 := Lib.lt_pow_nDigits (u / 10)
    have := Lib.nDigits_le20 u (by omega)
    by_cases c : Lib.nDigits u ≤ 19
    · exact c
    · exfalso
      have h0 : Lib.nDigits u = 20 := by omega
      have hlen := Lib.nDigits_unique
      by_cases hbig : 10 ^ 18 ≤ u
      · have := hlen 18 u hbig (by omega)
        omega
      · have h3 : ∀ k, k ≤ 18 → u < 10 ^ k → Lib.nDigits u ≤ k ∨ k = 0 := by
          intro k
          induction k with
          | zero => intro _ _; exact .inr rfl
          | succ k ih =>
            intro hk hu
            by_cases hc : u < 10 ^ k
            · rcases ih (by omega) hc with h | h
              · exact .inl (by omega)
              · subst h; exact .inl (by omega)
            · exact .inl (by have := hlen k u (by omega) hu; omega)
        rcases h3 18 (by omega) (by omega) with h | h <;> omega
  have H19 : Hid _ := h19; clear h19
  go_enter Tryd.func9, Tryd.ntmps9
  go_wp2
  go_loopw [0, 4] (fun x i wr => ∃ (v ii : Nat) (g : Nat → UInt8), x = .int .i64 v ∧ i = .int .i64 ii ∧ v ≤ u ∧ Hid (Done u v ii g) ∧ Hid (Buf w wr g)) (fun x _ _ => (intOf x).toNat)
  case atStart =>
    refine ⟨u, 20, fun _ => 0, rfl, rfl, Nat.le_refl _, ?_, ?_⟩
    · show Done u u 20 _
      refine ⟨Nat.le_refl _, by simp, ?_, fun t h1 h2 => by omega⟩
      rw [if_neg (by omega)]
      omega
    · show Buf w _ _
      refine ⟨fun t ht => ?_, fun t ht => ?_, (Below.refl _ _).alloc (Nat.le_refl _) _⟩
      · rw [World.cell?_alloc_at _ _ _ _ rfl]
        rcases (by omega : t = 0 ∨ t = 1 ∨ t = 2 ∨ t = 3 ∨ t = 4 ∨ t = 5 ∨ t = 6 ∨ t = 7 ∨ t = 8 ∨ t = 9 ∨ t = 10 ∨ t = 11 ∨ t = 12 ∨ t = 13 ∨ t = 14 ∨ t = 15 ∨ t = 16 ∨ t = 17 ∨ t = 18 ∨ t = 19) with rfl | rfl | rfl | rfl | rfl | rfl | rfl | rfl | rfl | rfl | rfl | rfl | rfl | rfl | rfl | rfl | rfl | rfl | rfl | rfl <;> rfl
      · exact World.frozen?_alloc_at _ _ _ _ rfl
  case round =>
    obtain ⟨v, ii, g, rfl, rfl, hvu, hD, hB⟩ := hrel
    by_cases hv : 0 < v
    · have hii : 1 ≤ ii := by
        have hc := hD.out.count
        rw [if_neg (by omega)] at hc
        have := H19.out
        have := Lib.nDigits_pos v
        have := hD.out.le
        omega
      obtain ⟨k, rfl⟩ : ∃ k, ii = k + 1 := ⟨ii - 1, by omega⟩
      have hk20 : (k : Int) < 20 := by have := hD.out.le; omega
      have hck := hB.out.cell k (by omega)
      have hfk := hB.out.free k (by omega)
      go_wp2
      go_roundw
      case rel =>
        have hD' := hD.out.step hv
        have hB' := hB.out.set k (by omega) (UInt8.ofNat (48 + v % 10))
        have ez : ((UInt8.ofNat (48 + v % 10)).toNat : Int) = 48 + (v : Int) % 10 := by rw [UInt8.toNat_ofNat']; omega
        rw [ez] at hB'
        exact ⟨v / 10, k, _, by go_num, by go_num, by omega, hD', hB'⟩
      case measure => simp [intOf]; omega
    · have hv0 : v = 0 := by omega
      subst hv0
      have hc := hD.out.count
      rw [if_pos rfl] at hc
      have hl20 := hD.out.le
      have hp := Lib.nDigits_pos u
      have hii : (ii : Int) < 20 := by omega
      have hcv : ∀ cap, (convert 32 9 (.slice (some ⟨w.heap.size, ii, none⟩) (20 - ii) cap)).run Tryd.prog wr = .ok (.string ⟨(Lib.decDigits u).toArray⟩) wr := fun cap => by
        refine conv_row (by rw [Lib.decDigits_length]; omega) (fun i hi => ?_) cap
        rw [Lib.decDigits_length] at hi
        rw [hB.out.cell (ii + i) (by omega), hD.out.dig (ii + i) (by omega) (by omega)]
        simp only [Lib.decDigits_eq, List.getElem_map, List.getElem_range]
        rw [show 19 - (ii + i) = Lib.nDigits u - 1 - i by omega]
      have hsl := run_slice31 w.heap.size ii (by omega)
      clear hc hp
      go_wp2_with fail
      go_ret
      exact ⟨rfl, hB.out.below⟩
set_option maxHeartbeats 400000 in
theorem zzItoa_zero (w : World) :
    Calls Tryd.prog 9 #[.int .i64 0] w fun e w' => e = .returned (.string ⟨#[48]⟩) ∧ Below w.heap.size w w' := by
  go_enter Tryd.func9, Tryd.ntmps9
  go_wp2
  go_ret
  exact ⟨rfl, Below.refl _ _⟩
theorem zzItoa_any (u : Nat) (w : World) (h2 : (u : Int) ≤ 9223372036854775807) :
    Calls Tryd.prog 9 #[.int .i64 u] w fun e w' => e = .returned (.string ⟨(Lib.decDigits u).toArray⟩) ∧ Below w.heap.size w w' := by
  by_cases h : u = 0
  · subst h
    rw [Lib.decDigits_one (by decide)]
    exact zzItoa_zero w
  · exact zzItoa_pos u w (by omega) h2
theorem len33 : Tryd.prog.arrayLen 33 = 3 := by kernel_rfl
theorem elem33 : Tryd.prog.elem 33 = 5 := by kernel_rfl
theorem und33 : Tryd.prog.underlying 33 = some (.array (Tryd.prog.arrayLen 33) (Tryd.prog.elem 33)) := by kernel_rfl
theorem run_slice33 (B : Nat) (w : World) : (Instr.sliceAt 33 (.pointer (some ⟨B, 0, none⟩)) none none none).run Tryd.prog w = .ok (.slice (some ⟨B, 0, none⟩) 3 3) w := by
  rw [run_sliceAt_array_all w 33 ⟨B, 0, none⟩ und33, elem33, size5, len33]
  rfl
theorem conv3 (w : World) (x : Nat) (h : x ≤ 999) : (convert 32 9 (.slice (some ⟨w.heap.size, 0, none⟩) 3 3)).run Tryd.prog (w.alloc (.cells #[.int .u8 (48 + (x : Int) / 100), .int .u8 (48 + (x : Int) / 10 % 10), .int .u8 (48 + (x : Int) % 10)] 33)) = .ok (.string ⟨#[Lib.dg x 2, Lib.dg x 1, Lib.dg x 0]⟩) (w.alloc (.cells #[.int .u8 (48 + (x : Int) / 100), .int .u8 (48 + (x : Int) / 10 % 10), .int .u8 (48 + (x : Int) % 10)] 33)) := by
  have e2 : ((Lib.dg x 2).toNat : Int) = 48 + (x : Int) / 100 := by
    unfold Lib.dg; rw [UInt8.toNat_ofNat', show (10 : Nat) ^ 2 = 100 from rfl]; omega
  have e1 : ((Lib.dg x 1).toNat : Int) = 48 + (x : Int) / 10 % 10 := by
    unfold Lib.dg; rw [UInt8.toNat_ofNat', show (10 : Nat) ^ 1 = 10 from rfl]; omega
  have e0 : ((Lib.dg x 0).toNat : Int) = 48 + (x : Int) % 10 := by
    unfold Lib.dg; rw [UInt8.toNat_ofNat', show (10 : Nat) ^ 0 = 1 from rfl]; omega
  refine conv_row (l := [Lib.dg x 2, Lib.dg x 1, Lib.dg x 0]) rfl (fun i hi => ?_) 3
  rw [World.cell?_alloc_at _ _ _ _ rfl]
  rcases (by have : i < 3 := hi; omega : i = 0 ∨ i = 1 ∨ i = 2) with rfl | rfl | rfl
  · show some (Value.int .u8 _) = some (Value.int .u8 _); rw [← e2]; rfl
  · show some (Value.int .u8 _) = some (Value.int .u8 _); rw [← e1]; rfl
  · show some (Value.int .u8 _) = some (Value.int .u8 _); rw [← e0]; rfl
set_option maxRecDepth 100000 in
set_option maxHeartbeats 800000 in
theorem zzThree_any (x : Nat) (w : World) (h2 : (x : Int) ≤ 999) :
    Calls Tryd.prog 10 #[.int .i64 x] w fun e w' => e = .returned (.string ⟨#[Lib.dg x 2, Lib.dg x 1, Lib.dg x 0]⟩) ∧ Below w.heap.size w w' := by
  have hsl := run_slice33 w.heap.size
  have hcv := conv3 w x (by omega)
  go_enter Tryd.func10, Tryd.ntmps10
  go_wp2_with fail
  go_ret
  exact ⟨rfl, (Below.refl _ _).alloc (Nat.le_refl _) _⟩

theorem tdiv_pos (d : Int) (h : 0 ≤ d) : d.tdiv 1000 = ((d / 1000).toNat : Int) := by
  rw [Int.tdiv_eq_ediv_of_nonneg h]; omega
theorem tdiv_neg (d : Int) (h : d ≤ 0) : d.tdiv 1000 = -((-d / 1000).toNat : Int) := by
  have : (-d).tdiv 1000 = -d / 1000 := Int.tdiv_eq_ediv_of_nonneg (by omega)
  rw [Int.neg_tdiv] at this
  omega
/-- The model's text, its parts joined. -/
theorem cat_text (A : List UInt8) (a b c : UInt8) : ((⟨A.toArray⟩ : ByteArray) ++ ⟨#[46]⟩ ++ ⟨#[a, b, c]⟩) = ⟨(A ++ [46] ++ [a, b, c]).toArray⟩ := by
  apply ByteArray.ext
  rw [ByteArray.data_append, ByteArray.data_append]
  simp
theorem cat_text_neg (A : List UInt8) (a b c : UInt8) : ((⟨#[45]⟩ : ByteArray) ++ ⟨A.toArray⟩ ++ ⟨#[46]⟩ ++ ⟨#[a, b, c]⟩) = ⟨(45 :: (A ++ [46] ++ [a, b, c])).toArray⟩ := by
  apply ByteArray.ext
  rw [ByteArray.data_append, ByteArray.data_append, ByteArray.data_append]
  simp
theorem dg_mod (us j : Nat) (h : j < 3) : Lib.dg (us % 1000) j = Lib.dg us j := by
  unfold Lib.dg
  rcases (by omega : j = 0 ∨ j = 1 ∨ j = 2) with rfl | rfl | rfl <;> congr 2
  · simp only [Nat.pow_zero, Nat.div_one]; omega
  · simp only [Nat.pow_one]; omega
  · simp only [show (10 : Nat) ^ 2 = 100 from rfl]; omega
set_option maxHeartbeats 800000 in
theorem model_nonneg (d : Int) (us : Nat) (w : World) (h0 : 0 ≤ d) (h1 : d ≤ 8700000000000000000) (hus : d.tdiv 1000 = (us : Int)) :
    Calls Tryd.prog 6 #[.int .i64 d] w fun e w' => e = .returned (.string ⟨(msText false us).toArray⟩) ∧ Below w.heap.size w w' := by
  have hu : (us : Int) ≤ 8700000000000000 := by rw [← hus, Int.tdiv_eq_ediv_of_nonneg h0]; omega
  have hd : d / 1000 = (us : Int) := by rw [← hus, Int.tdiv_eq_ediv_of_nonneg h0]
  clear hus
  have hl : (Lib.decDigits (us / 1000)).length ≤ 30 := by rw [Lib.decDigits_length]; have := nDigits_le16 (us / 1000) (by omega); omega
  have hsz : (⟨(Lib.decDigits (us / 1000)).toArray⟩ : ByteArray).size ≤ 30 := by simpa [ByteArray.size] using hl
  obtain ⟨A, hA⟩ : ∃ A : ByteArray, A = ⟨(Lib.decDigits (us / 1000)).toArray⟩ := ⟨_, rfl⟩
  have HI := hide (fun w => zzItoa_any (us / 1000) w (by omega))
  have HT := hide (fun w => zzThree_any (us % 1000) w (by omega))
  have HE : Hid ((A ++ ⟨#[46]⟩ ++ ⟨#[Lib.dg (us % 1000) 2, Lib.dg (us % 1000) 1, Lib.dg (us % 1000) 0]⟩) = ⟨(msText false us).toArray⟩) := by
    show _ = _
    rw [hA, cat_text, dg_mod us 2 (by omega), dg_mod us 1 (by omega), dg_mod us 0 (by omega)]
    simp [msText]
  rw [← hA] at HI hsz
  have HA : Hid _ := hA; clear hA hl
  have hTs : (⟨#[Lib.dg (us % 1000) 2, Lib.dg (us % 1000) 1, Lib.dg (us % 1000) 0]⟩ : ByteArray).size ≤ 3 := Nat.le_refl _
  generalize (⟨#[Lib.dg (us % 1000) 2, Lib.dg (us % 1000) 1, Lib.dg (us % 1000) 0]⟩ : ByteArray) = T at HT HE hTs
  go_enter Tryd.func6, Tryd.ntmps6
  go_wp2_with fail
  rw [show ((us : Int) / 1000) = ((us / 1000 : Nat) : Int) by omega]
  refine (HI.out _).mono ?_
  rintro e w1 ⟨rfl, hb1⟩
  have HB1 : Hid _ := hb1; clear hb1
  go_wp2_with fail
  rw [show ((us : Int) % 1000) = ((us % 1000 : Nat) : Int) by omega]
  refine (HT.out _).mono ?_
  rintro e w2 ⟨rfl, hb2⟩
  have HB2 : Hid _ := hb2; clear hb2
  go_wp2_with fail
  go_ret
  exact ⟨by rw [← HE.out]; rfl, HB1.out.trans (HB2.out.mono HB1.out.size)⟩
set_option maxHeartbeats 800000 in
theorem model_neg (d : Int) (us : Nat) (w : World) (h0 : d ≤ -1000) (h1 : -8700000000000000000 ≤ d) (hus : d.tdiv 1000 = -(us : Int)) :
    Calls Tryd.prog 6 #[.int .i64 d] w fun e w' => e = .returned (.string ⟨(msText true us).toArray⟩) ∧ Below w.heap.size w w' := by
  have hu : (us : Int) ≤ 8700000000000000 := by rw [tdiv_neg d (by omega)] at hus; omega
  have hu1 : (1 : Int) ≤ us := by rw [tdiv_neg d (by omega)] at hus; omega
  have hl : (Lib.decDigits (us / 1000)).length ≤ 30 := by rw [Lib.decDigits_length]; have := nDigits_le16 (us / 1000) (by omega); omega
  have hsz : (⟨(Lib.decDigits (us / 1000)).toArray⟩ : ByteArray).size ≤ 30 := by simpa [ByteArray.size] using hl
  obtain ⟨A, hA⟩ : ∃ A : ByteArray, A = ⟨(Lib.decDigits (us / 1000)).toArray⟩ := ⟨_, rfl⟩
  have HI := hide (fun w => zzItoa_any (us / 1000) w (by omega))
  have HT := hide (fun w => zzThree_any (us % 1000) w (by omega))
  have HE : Hid ((⟨#[45]⟩ ++ A ++ ⟨#[46]⟩ ++ ⟨#[Lib.dg (us % 1000) 2, Lib.dg (us % 1000) 1, Lib.dg (us % 1000) 0]⟩) = ⟨(msText true us).toArray⟩) := by
    show _ = _
    rw [hA, cat_text_neg, dg_mod us 2 (by omega), dg_mod us 1 (by omega), dg_mod us 0 (by omega)]
    simp [msText]
  rw [← hA] at HI hsz
  have HA : Hid _ := hA; clear hA hl
  have hTs : (⟨#[Lib.dg (us % 1000) 2, Lib.dg (us % 1000) 1, Lib.dg (us % 1000) 0]⟩ : ByteArray).size ≤ 3 := Nat.le_refl _
  generalize (⟨#[Lib.dg (us % 1000) 2, Lib.dg (us % 1000) 1, Lib.dg (us % 1000) 0]⟩ : ByteArray) = T at HT HE hTs
  go_enter Tryd.func6, Tryd.ntmps6
  go_wp2_with fail
  rw [show ((us : Int) / 1000) = ((us / 1000 : Nat) : Int) by omega]
  refine (HI.out _).mono ?_
  rintro e w1 ⟨rfl, hb1⟩
  have HB1 : Hid _ := hb1; clear hb1
  go_wp2_with fail
  rw [show ((us : Int) % 1000) = ((us % 1000 : Nat) : Int) by omega]
  refine (HT.out _).mono ?_
  rintro e w2 ⟨rfl, hb2⟩
  have HB2 : Hid _ := hb2; clear hb2
  go_wp2_with fail
  go_ret
  exact ⟨by rw [← HE.out]; rfl, HB1.out.trans (HB2.out.mono HB1.out.size)⟩
set_option maxHeartbeats 800000 in
theorem model_small (d : Int) (w : World) (h0 : -1000 < d) (h1 : d < 0) :
    Calls Tryd.prog 6 #[.int .i64 d] w fun e w' => e = .returned (.string ⟨(msText false 0).toArray⟩) ∧ Below w.heap.size w w' := by
  have hus : d.tdiv 1000 = 0 := by rw [tdiv_neg d (by omega)]; omega
  have HI := hide zzItoa_zero
  have HT := hide (fun w => zzThree_any 0 w (by omega))
  have e0 : (⟨#[Lib.dg 0 2, Lib.dg 0 1, Lib.dg 0 0]⟩ : ByteArray) = ⟨#[48, 48, 48]⟩ := rfl
  rw [e0] at HT
  rw [ms0]
  go_enter Tryd.func6, Tryd.ntmps6
  go_wp2_with fail
  refine (HI.out _).mono ?_
  rintro e w1 ⟨rfl, hb1⟩
  have HB1 : Hid _ := hb1; clear hb1
  go_wp2_with fail
  refine (HT.out _).mono ?_
  rintro e w2 ⟨rfl, hb2⟩
  have HB2 : Hid _ := hb2; clear hb2
  go_wp2_with fail
  go_ret
  exact ⟨rfl, HB1.out.trans (HB2.out.mono HB1.out.size)⟩
theorem model_any (d : Int) (w : World) (h0 : -8700000000000000000 ≤ d) (h1 : d ≤ 8700000000000000000) :
    Calls Tryd.prog 6 #[.int .i64 d] w fun e w' => e = .returned (.string ⟨(msOf d).toArray⟩) ∧ Below w.heap.size w w' := by
  by_cases hp : 0 ≤ d
  · rw [msOf_nonneg d hp]
    exact model_nonneg d _ w hp h1 (tdiv_pos d hp)
  · by_cases hs : -1000 < d
    · rw [msOf_small d hs (by omega), ← ms0]
      exact model_small d w hs (by omega)
    · have e0 : d = -(-d) := by omega
      rw [show msOf d = msOf (-(-d)) by rw [← e0], msOf_neg (-d) (by omega)]
      exact model_neg d _ w (by omega) h0 (tdiv_neg d (by omega))
/-- Two durations read alike just when their whole microseconds agree. -/
theorem msText_inj {a b : Bool} {x y : Nat} (h : msText a x = msText b y) : a = b ∧ x = y := by
  cases a <;> cases b
  · refine ⟨rfl, body_inj ?_⟩
    simpa [msText] using h
  · exfalso
    rw [msText_true] at h
    have h2 : (msText false x).head? = some 45 := by rw [h]; rfl
    simp only [msText, Bool.false_eq_true, if_false, List.nil_append, List.append_assoc] at h2
    exact dec_head _ _ h2
  · exfalso
    rw [msText_true] at h
    have h2 : (msText false y).head? = some 45 := by rw [← h]; rfl
    simp only [msText, Bool.false_eq_true, if_false, List.nil_append, List.append_assoc] at h2
    exact dec_head _ _ h2
  · refine ⟨rfl, body_inj ?_⟩
    rw [msText_true, msText_true] at h
    simpa [msText] using (List.cons.inj h).2
theorem msOf_inj {d e : Int} (h : msOf d = msOf e) : d.tdiv 1000 = e.tdiv 1000 := by
  unfold msOf at h
  obtain ⟨h1, h2⟩ := msText_inj h
  have h3 : (d.tdiv 1000 < 0) ↔ (e.tdiv 1000 < 0) := by simpa using h1
  omega
theorem same_test (d e : Int) : ((⟨(msOf d).toArray⟩ : ByteArray).toList == (⟨(msOf e).toArray⟩ : ByteArray).toList) = (d.tdiv 1000 == e.tdiv 1000) := by
  rw [Bool.eq_iff_iff, beq_iff_eq, beq_iff_eq]
  constructor
  · intro h
    apply msOf_inj
    have e1 : ∀ l : List UInt8, (⟨l.toArray⟩ : ByteArray).toList = l := fun l => Lib.toList_data _
    rw [e1, e1] at h
    exact h
  · intro h
    unfold msOf
    rw [h]
set_option maxHeartbeats 800000 in
theorem law3_in (d e : Int) (w : World) (P Q : ByteArray) (h0 : -8700000000000000000 ≤ d) (h1 : d ≤ 8700000000000000000) (h2 : -8700000000000000000 ≤ e) (h3 : e ≤ 8700000000000000000)
   (hPQ : (P.toList == Q.toList) = (d.tdiv 1000 == e.tdiv 1000))
   (H1 : Hid (∀ w, Tabs w → Calls Tryd.prog 5 #[.int .i64 d] w fun e w' => e = .returned (.string P) ∧ Below w.heap.size w w'))
   (H2 : Hid (∀ w, Tabs w → Calls Tryd.prog 5 #[.int .i64 e] w fun e w' => e = .returned (.string Q) ∧ Below w.heap.size w w'))
   (H3 : Hid (∀ w, Calls Tryd.prog 6 #[.int .i64 d] w fun e w' => e = .returned (.string P) ∧ Below w.heap.size w w')) (ht : Tabs w) :
    Calls Tryd.prog 3 #[.int .i64 d, .int .i64 e] w fun e w' => e = .returned (.bool true) ∧ Below w.heap.size w w' := by
  have HPQ : Hid _ := hPQ; clear hPQ
  go_enter Tryd.func3, Tryd.ntmps3
  go_wp2_with fail
  refine (H1.out _ ht).mono ?_
  rintro e w1 ⟨rfl, hb1⟩
  have HB1 : Hid _ := hb1; clear hb1
  go_wp2_with fail
  refine (H2.out _ (ht.below ht.big HB1.out)).mono ?_
  rintro e w2 ⟨rfl, hb2⟩
  have HB2 : Hid _ := hb2; clear hb2
  go_wp2_with fail
  refine (H3.out _).mono ?_
  rintro e w3 ⟨rfl, hb3⟩
  have HB3 : Hid _ := hb3; clear hb3
  go_wp2_with fail
  go_ret
  refine ⟨?_, HB1.out.trans ((HB2.out.mono HB1.out.size).trans (HB3.out.mono (Nat.le_trans HB1.out.size HB2.out.size)))⟩
  exact ret_bool (by rw [HPQ.out, beq_self_eq_true])
set_option maxHeartbeats 800000 in
theorem law3_out (d e : Int) (w : World) (h : 8700000000000000000 < d ∨ d < -8700000000000000000 ∨ 8700000000000000000 < e ∨ e < -8700000000000000000) :
    Calls Tryd.prog 3 #[.int .i64 d, .int .i64 e] w fun e w' => e = .returned (.bool true) ∧ Below w.heap.size w w' := by
  by_cases h1 : 8700000000000000000 < d
  · go_enter Tryd.func3, Tryd.ntmps3
    go_wp2_with fail
    go_ret
    exact ⟨rfl, Below.refl _ _⟩
  · by_cases h2 : d < -8700000000000000000
    · go_enter Tryd.func3, Tryd.ntmps3
      go_wp2_with fail
      go_ret
      exact ⟨rfl, Below.refl _ _⟩
    · by_cases h3 : 8700000000000000000 < e
      · go_enter Tryd.func3, Tryd.ntmps3
        go_wp2_with fail
        go_ret
        exact ⟨rfl, Below.refl _ _⟩
      · have h4 : e < -8700000000000000000 := by omega
        go_enter Tryd.func3, Tryd.ntmps3
        go_wp2_with fail
        go_ret
        exact ⟨rfl, Below.refl _ _⟩
theorem law3 (d e : Int) (w : World) (ht : Tabs w) : Calls Tryd.prog 3 #[.int .i64 d, .int .i64 e] w fun e w' => e = .returned (.bool true) ∧ Below w.heap.size w w' := by
  by_cases h : 8700000000000000000 < d ∨ d < -8700000000000000000 ∨ 8700000000000000000 < e ∨ e < -8700000000000000000
  · exact law3_out d e w h
  · exact law3_in d e w _ _ (by omega) (by omega) (by omega) (by omega) (same_test d e) (fun w => zzmillis_any d w (by omega) (by omega)) (fun w => zzmillis_any e w (by omega) (by omega)) (fun w => model_any d w (by omega) (by omega)) ht
end Go.Proofs.Qxb6614386aDoor
