/-
  THE WALK OF FnMillisecondsNegationAddsMinus.
-/
import Derived.Test.Qxb6614386aDoorW9
import Derived.Lib.ItoaLen
namespace Go.Proofs.Qxb6614386aDoor
open Go.RowKit Ms Go.Sort
set_option maxHeartbeats 400000 in
theorem zzDigits_any (u : Nat) (w : World) (h1 : (u : Int) ≤ 9223372036854775807) :
    Calls Tryd.prog 7 #[.int .i64 u] w fun e w' => e = .returned (.int .i64 (Lib.nDigits u)) ∧ w' = w := by
  obtain ⟨N, hN⟩ : ∃ N, Lib.nDigits u = N := ⟨_, rfl⟩
  have h20 : N ≤ 20 := by rw [← hN]; exact Lib.nDigits_le20 u (by omega)
  rw [hN]
  have HN : Hid _ := hN; clear hN
  go_enter Tryd.func7, Tryd.ntmps7
  go_wp2
  go_loop [0, 3] (fun x n => ∃ v k : Nat, x = .int .i64 v ∧ n = .int .i64 k ∧ 1 ≤ k ∧ v ≤ u ∧ Hid (k + Lib.nDigits v = N + 1)) (fun x _ => (intOf x).toNat)
  case atStart => exact ⟨u, 1, rfl, rfl, Nat.le_refl _, Nat.le_refl _, by show 1 + Lib.nDigits u = _; rw [HN.out]; omega⟩
  case round =>
    obtain ⟨v, k, rfl, rfl, hk1, hvu, hk⟩ := hrel
    have hk20 : (k : Int) ≤ 30 := by have := hk.out; omega
    by_cases hlt : 10 ≤ v
    · go_wp2
      go_round
      case rel => exact ⟨v / 10, k + 1, by go_num, by go_num, by omega, by omega, by have := hk.out; rw [Lib.nDigits_big (by omega)] at this; show k + 1 + Lib.nDigits (v / 10) = _; omega⟩
      case measure => simp [intOf]; omega
    · go_wp2
      go_ret
      exact ⟨ret_int (by have := hk.out; rw [Lib.nDigits_small (by omega)] at this; omega), rfl⟩
set_option maxHeartbeats 400000 in
theorem law4_out (d : Int) (w : World) (h : 8700000000000000000 < d ∨ d < -8700000000000000000) :
    Calls Tryd.prog 4 #[.int .i64 d] w fun e w' => e = .returned (.bool true) ∧ Below w.heap.size w w' := by
  rcases h with h | h
  · go_enter Tryd.func4, Tryd.ntmps4
    go_wp2
    go_ret
    exact ⟨rfl, Below.refl _ _⟩
  · have h' : ¬ (8700000000000000000 : Int) < d := by omega
    go_enter Tryd.func4, Tryd.ntmps4
    go_wp2
    go_ret
    exact ⟨rfl, Below.refl _ _⟩
theorem negdiv (d : Int) (h0 : d ≤ 0) (h1 : -8700000000000000000 ≤ d) : wrap64 (-d.tdiv 1000000) = -d / 1000000 := by
  rw [← Int.neg_tdiv, Int.tdiv_eq_ediv_of_nonneg (by omega)]
  unfold wrap64
  omega
/-- The shape of a positive text. -/
structure Shape (P : ByteArray) (n : Nat) : Prop where
  size : P.size = n + 4
  small : n ≤ 30
  dot : ∀ (k : Nat) (h : k < P.size), k = n → (P[k]'h).toNat = 46
  dig : ∀ (k : Nat) (h : k < P.size), k ≠ n → 48 ≤ (P[k]'h).toNat ∧ (P[k]'h).toNat ≤ 57
set_option maxHeartbeats 800000 in
theorem law4_pos (d : Int) (n : Nat) (w : World) (P : ByteArray) (h0 : 1000 ≤ d) (h1 : d ≤ 8700000000000000000) (hS : Shape P n) (hn : Lib.nDigits (d / 1000000).toNat = n)
   (H1 : Hid (∀ w, Tabs w → Calls Tryd.prog 5 #[.int .i64 d] w fun e w' => e = .returned (.string P) ∧ Below w.heap.size w w'))
   (H2 : Hid (∀ w, Tabs w → Calls Tryd.prog 5 #[.int .i64 (-d)] w fun e w' => e = .returned (.string (⟨#[45]⟩ ++ P)) ∧ Below w.heap.size w w')) (ht : Tabs w) :
    Calls Tryd.prog 4 #[.int .i64 d] w fun e w' => e = .returned (.bool true) ∧ Below w.heap.size w w' := by
  have hsz := hS.size
  have hs30 := hS.small
  have hP : (P.size : Int) ≤ 40 := by omega
  have hP' : (n : Int) + 4 = P.size := by omega
  clear hsz
  have HS : Hid _ := hS; clear hS
  have HD := hide (fun w => zzDigits_any (d / 1000000).toNat w (by omega))
  rw [hn] at HD
  rw [show (((d / 1000000).toNat : Nat) : Int) = d / 1000000 by omega] at HD
  clear hn
  go_enter Tryd.func4, Tryd.ntmps4
  go_wp2_with fail
  refine (H1.out _ ht).mono ?_
  rintro e w1 ⟨rfl, hb1⟩
  have HB1 : Hid _ := hb1; clear hb1
  go_wp2_with fail
  refine (H2.out _ (ht.below ht.big HB1.out)).mono ?_
  rintro e w2 ⟨rfl, hb2⟩
  have HB2 : Hid _ := hb2; clear hb2
  go_wp2_with fail
  refine (HD.out _).mono ?_
  rintro e w3 ⟨rfl, rfl⟩
  go_wp2_with fail
  go_loop [9] (fun i => ∃ k : Nat, k ≤ P.size ∧ i = .int .i64 k) (fun i => P.size - (intOf i).toNat)
  case atStart => exact ⟨0, Nat.zero_le _, rfl⟩
  case round =>
    obtain ⟨k, hk, rfl⟩ := hrel
    by_cases hlt : k < P.size
    · by_cases hkn : k = n
      · have hd46 : ((P[k]'hlt).toNat : Int) = 46 := by have := HS.out.dot k hlt hkn; omega
        have hk4 : (k : Int) + 4 = P.size := by omega
        have Hkn : Hid _ := hkn; clear hkn
        go_wp2
        go_round
        case rel => exact ⟨k + 1, by omega, by go_num⟩
        case measure => simp [intOf]; omega
      · obtain ⟨c1, c2⟩ := HS.out.dig k hlt hkn
        have c1' : (48 : Int) ≤ ((P[k]'hlt).toNat : Int) := by omega
        have c2' : ((P[k]'hlt).toNat : Int) ≤ 57 := by omega
        have hk4 : ((k : Int) == (P.size : Int) - 4) = false := by rw [beq_eq_false_iff_ne]; omega
        clear c1 c2
        go_wp2
        go_round
        case rel => exact ⟨k + 1, by omega, by go_num⟩
        case measure => simp [intOf]; omega
    · go_wp2
      go_ret
      exact ⟨rfl, HB1.out.trans (HB2.out.mono HB1.out.size)⟩
set_option maxHeartbeats 800000 in
theorem law4_neg (d : Int) (n : Nat) (w : World) (P : ByteArray) (h0 : d ≤ -1000) (h1 : -8700000000000000000 ≤ d) (hS : Shape P n) (hn : Lib.nDigits (-d / 1000000).toNat = n)
   (H1 : Hid (∀ w, Tabs w → Calls Tryd.prog 5 #[.int .i64 d] w fun e w' => e = .returned (.string (⟨#[45]⟩ ++ P)) ∧ Below w.heap.size w w'))
   (H2 : Hid (∀ w, Tabs w → Calls Tryd.prog 5 #[.int .i64 (-d)] w fun e w' => e = .returned (.string P) ∧ Below w.heap.size w w')) (ht : Tabs w) :
    Calls Tryd.prog 4 #[.int .i64 d] w fun e w' => e = .returned (.bool true) ∧ Below w.heap.size w w' := by
  have hsz := hS.size
  have hs30 := hS.small
  have hP : (P.size : Int) ≤ 40 := by omega
  have hP' : (n : Int) + 4 = P.size := by omega
  clear hsz
  have HS : Hid _ := hS; clear hS
  have HD := hide (fun w => zzDigits_any (-d / 1000000).toNat w (by omega))
  rw [hn] at HD
  rw [show (((-d / 1000000).toNat : Nat) : Int) = -d / 1000000 by omega] at HD
  clear hn
  go_enter Tryd.func4, Tryd.ntmps4
  go_wp2_with fail
  refine (H1.out _ ht).mono ?_
  rintro e w1 ⟨rfl, hb1⟩
  have HB1 : Hid _ := hb1; clear hb1
  go_wp2_with fail
  refine (H2.out _ (ht.below ht.big HB1.out)).mono ?_
  rintro e w2 ⟨rfl, hb2⟩
  have HB2 : Hid _ := hb2; clear hb2
  go_wp2_with fail
  rw [negdiv d (by omega) (by omega)]
  refine (HD.out _).mono ?_
  rintro e w3 ⟨rfl, rfl⟩
  go_wp2_with fail
  go_loop [9] (fun i => ∃ k : Nat, k ≤ P.size ∧ i = .int .i64 k) (fun i => P.size - (intOf i).toNat)
  case atStart => exact ⟨0, Nat.zero_le _, rfl⟩
  case round =>
    obtain ⟨k, hk, rfl⟩ := hrel
    by_cases hlt : k < P.size
    · by_cases hkn : k = n
      · have hd46 : ((P[k]'hlt).toNat : Int) = 46 := by have := HS.out.dot k hlt hkn; omega
        have hk4 : (k : Int) + 4 = P.size := by omega
        have Hkn : Hid _ := hkn; clear hkn
        go_wp2
        go_round
        case rel => exact ⟨k + 1, by omega, by go_num⟩
        case measure => simp [intOf]; omega
      · obtain ⟨c1, c2⟩ := HS.out.dig k hlt hkn
        have c1' : (48 : Int) ≤ ((P[k]'hlt).toNat : Int) := by omega
        have c2' : ((P[k]'hlt).toNat : Int) ≤ 57 := by omega
        have hk4 : ((k : Int) == (P.size : Int) - 4) = false := by rw [beq_eq_false_iff_ne]; omega
        clear c1 c2
        go_wp2
        go_round
        case rel => exact ⟨k + 1, by omega, by go_num⟩
        case measure => simp [intOf]; omega
    · go_wp2
      go_ret
      exact ⟨rfl, HB1.out.trans (HB2.out.mono HB1.out.size)⟩
set_option maxHeartbeats 800000 in
theorem law4_small (d : Int) (w : World) (h0 : -1000 < d) (h1 : d < 1000)
   (H1 : Hid (∀ w, Tabs w → Calls Tryd.prog 5 #[.int .i64 d] w fun e w' => e = .returned (.string ⟨#[48, 46, 48, 48, 48]⟩) ∧ Below w.heap.size w w'))
   (H2 : Hid (∀ w, Tabs w → Calls Tryd.prog 5 #[.int .i64 (-d)] w fun e w' => e = .returned (.string ⟨#[48, 46, 48, 48, 48]⟩) ∧ Below w.heap.size w w')) (ht : Tabs w) :
    Calls Tryd.prog 4 #[.int .i64 d] w fun e w' => e = .returned (.bool true) ∧ Below w.heap.size w w' := by
  by_cases hd : d < 0
  all_goals
    go_enter Tryd.func4, Tryd.ntmps4
    go_wp2_with fail
    refine (H1.out _ ht).mono ?_
    rintro e w1 ⟨rfl, hb1⟩
    have HB1 : Hid _ := hb1; clear hb1
    go_wp2_with fail
    refine (H2.out _ (ht.below ht.big HB1.out)).mono ?_
    rintro e w2 ⟨rfl, hb2⟩
    have HB2 : Hid _ := hb2; clear hb2
    go_wp2_with fail
    go_ret
    exact ⟨rfl, HB1.out.trans (HB2.out.mono HB1.out.size)⟩

theorem msText_true (us : Nat) : msText true us = 45 :: msText false us := by simp [msText]
theorem msText_len (us : Nat) : (msText false us).length = Lib.nDigits (us / 1000) + 4 := by
  simp [msText, Lib.decDigits_length]
theorem cat45 (l : List UInt8) : ((⟨#[45]⟩ : ByteArray) ++ ⟨l.toArray⟩) = ⟨(45 :: l).toArray⟩ := by
  apply ByteArray.ext
  rw [ByteArray.data_append]
  simp
theorem dg_range (u j : Nat) : 48 ≤ (Lib.dg u j).toNat ∧ (Lib.dg u j).toNat ≤ 57 := by
  unfold Lib.dg
  have : u / 10 ^ j % 10 < 10 := Nat.mod_lt _ (by decide)
  rw [UInt8.toNat_ofNat']
  omega
theorem dec_range (u k : Nat) (h : k < (Lib.decDigits u).length) : 48 ≤ ((Lib.decDigits u)[k]).toNat ∧ ((Lib.decDigits u)[k]).toNat ≤ 57 := by
  have e : (Lib.decDigits u)[k] = Lib.dg u (Lib.nDigits u - 1 - k) := by
    simp only [Lib.decDigits_eq, List.getElem_map, List.getElem_range]
  rw [e]
  exact dg_range _ _
theorem shape_ms (us : Nat) (h : us ≤ 8700000000000000) : Shape ⟨(msText false us).toArray⟩ (Lib.nDigits (us / 1000)) := by
  have hl := msText_len us
  have hdl := Lib.decDigits_length (us / 1000)
  have hget : ∀ (k : Nat) (hk : k < (msText false us).length), (msText false us)[k]? = some ((msText false us)[k]'hk) := fun k hk => List.getElem?_eq_getElem hk
  have hpos : ∀ (k : Nat) (hk : k < (⟨(msText false us).toArray⟩ : ByteArray).size), (⟨(msText false us).toArray⟩ : ByteArray)[k]'hk = (msText false us)[k]'(by simpa [ByteArray.size] using hk) := fun k hk => rfl
  refine ⟨by simp [ByteArray.size, hl], by have := nDigits_le16 (us / 1000) (by omega); omega, ?_, ?_⟩
  · intro k hk e
    rw [hpos k hk]
    have hk' : k < (msText false us).length := by simpa [ByteArray.size] using hk
    have := hget k hk'
    have e2 : (msText false us)[k]? = some 46 := by
      simp only [msText, Bool.false_eq_true, if_false, List.nil_append]
      rw [List.append_assoc, List.getElem?_append_right (by omega), show k - (Lib.decDigits (us / 1000)).length = 0 by omega]
      rfl
    rw [e2] at this
    rw [← Option.some.inj this]
    rfl
  · intro k hk e
    rw [hpos k hk]
    have hk' : k < (msText false us).length := by simpa [ByteArray.size] using hk
    have := hget k hk'
    by_cases hlt : k < (Lib.decDigits (us / 1000)).length
    · have e2 : (msText false us)[k]? = some ((Lib.decDigits (us / 1000))[k]) := by
        simp only [msText, Bool.false_eq_true, if_false, List.nil_append]
        rw [List.append_assoc, List.getElem?_append_left hlt, List.getElem?_eq_getElem hlt]
      rw [e2] at this
      rw [← Option.some.inj this]
      exact dec_range _ _ hlt
    · have h3 : k - (Lib.decDigits (us / 1000)).length = 1 ∨ k - (Lib.decDigits (us / 1000)).length = 2 ∨ k - (Lib.decDigits (us / 1000)).length = 3 := by omega
      have e2 : ∃ j, (msText false us)[k]? = some (Lib.dg us j) := by
        simp only [msText, Bool.false_eq_true, if_false, List.nil_append]
        rw [List.append_assoc, List.getElem?_append_right (by omega)]
        rcases h3 with h3 | h3 | h3 <;> rw [h3]
        · exact ⟨2, rfl⟩
        · exact ⟨1, rfl⟩
        · exact ⟨0, rfl⟩
      obtain ⟨j, e2⟩ := e2
      rw [e2] at this
      rw [← Option.some.inj this]
      exact dg_range _ _
theorem msOf_nonneg (d : Int) (h : 0 ≤ d) : msOf d = msText false (d / 1000).toNat := by
  unfold msOf
  have e : d.tdiv 1000 = d / 1000 := Int.tdiv_eq_ediv_of_nonneg h
  have h2 : ¬ d / 1000 < 0 := by omega
  rw [e, decide_eq_false h2]
  congr 1
  omega
theorem msOf_neg (d : Int) (h : 1000 ≤ d) : msOf (-d) = msText true (d / 1000).toNat := by
  unfold msOf
  have e : (-d).tdiv 1000 = -(d / 1000) := by rw [Int.neg_tdiv, Int.tdiv_eq_ediv_of_nonneg (by omega)]
  have h2 : -(d / 1000) < 0 := by omega
  rw [e, decide_eq_true h2]
  congr 1
  omega
theorem msOf_small (d : Int) (h0 : -1000 < d) (h1 : d < 1000) : msOf d = [48, 46, 48, 48, 48] := by
  have e : d.tdiv 1000 = 0 := by
    by_cases h : 0 ≤ d
    · rw [Int.tdiv_eq_ediv_of_nonneg h]; omega
    · have : (-d).tdiv 1000 = 0 := by rw [Int.tdiv_eq_ediv_of_nonneg (by omega)]; omega
      rw [Int.neg_tdiv] at this
      omega
  unfold msOf
  rw [e]
  exact ms0
theorem law4 (d : Int) (w : World) (ht : Tabs w) : Calls Tryd.prog 4 #[.int .i64 d] w fun e w' => e = .returned (.bool true) ∧ Below w.heap.size w w' := by
  by_cases hr : 8700000000000000000 < d ∨ d < -8700000000000000000
  · exact law4_out d w hr
  · have C := fun w => zzmillis_any d w (by omega) (by omega)
    have C' := fun w => zzmillis_any (-d) w (by omega) (by omega)
    by_cases hs : -1000 < d ∧ d < 1000
    · rw [msOf_small d hs.1 hs.2] at C
      rw [msOf_small (-d) (by omega) (by omega)] at C'
      exact law4_small d w hs.1 hs.2 C C' ht
    · by_cases hp : 0 ≤ d
      · rw [msOf_nonneg d hp] at C
        rw [msOf_neg d (by omega), msText_true, ← cat45] at C'
        have e : (d / 1000000).toNat = (d / 1000).toNat / 1000 := by omega
        exact law4_pos d (Lib.nDigits ((d / 1000).toNat / 1000)) w ⟨(msText false (d / 1000).toNat).toArray⟩ (by omega) (by omega) (shape_ms _ (by omega)) (by rw [e]) C C' ht
      · have e0 : d = -(-d) := by omega
        rw [show msOf d = msOf (-(-d)) by rw [← e0], msOf_neg (-d) (by omega), msText_true, ← cat45] at C
        rw [msOf_nonneg (-d) (by omega)] at C'
        have e : (-d / 1000000).toNat = (-d / 1000).toNat / 1000 := by omega
        exact law4_neg d (Lib.nDigits ((-d / 1000).toNat / 1000)) w ⟨(msText false (-d / 1000).toNat).toArray⟩ (by omega) (by omega) (shape_ms _ (by omega)) (by rw [e]) C C' ht
end Go.Proofs.Qxb6614386aDoor
