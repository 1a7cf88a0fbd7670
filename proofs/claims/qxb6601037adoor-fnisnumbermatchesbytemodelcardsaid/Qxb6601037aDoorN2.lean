/-
  isNumberModel, walked; the bound on the length.
-/
import Derived.Test.Qxb6601037aDoorN1
namespace Go.Proofs.Qxb6601037aDoor
open Go.RowKit
set_option linter.unusedSimpArgs false
def is0x (l : List UInt8) : Bool := match l with
  | a :: b :: _ => a.toNat == 48 && (b.toNat == 120 || b.toNat == 88)
  | _ => false
def model (l : List UInt8) : Bool := if is0x l then (l.drop 2).all (fun b => hexB b.toNat) else l.all (fun b => decB b.toNat)
theorem at_list (s : ByteArray) (i : Nat) (h : i < s.size) : s.data.toList[i]? = some (s[i]'h) := by
  rw [Array.getElem?_toList]
  exact Array.getElem?_eq_getElem h
theorem len_list (s : ByteArray) : s.data.toList.length = s.size := by rw [Array.length_toList]; rfl
theorem all_false {l : List UInt8} {p : UInt8 → Bool} (k i : Nat) (x : UInt8) (hk : k ≤ i) (h : l[i]? = some x) (hp : p x = false) : (l.drop k).all p = false := by
  rw [List.all_eq_false]
  refine ⟨x, ?_, by simp [hp]⟩
  apply List.mem_of_getElem? (i := i - k)
  rw [List.getElem?_drop, ← h]
  congr 1
  omega
theorem all_true {l : List UInt8} {p : UInt8 → Bool} (k : Nat) (h : ∀ t b, k ≤ t → l[t]? = some b → p b = true) : (l.drop k).all p = true := by
  rw [List.all_eq_true]
  intro x hx
  obtain ⟨j, hj⟩ := List.getElem?_of_mem hx
  rw [List.getElem?_drop] at hj
  exact h _ _ (by omega) hj
theorem zz6 (s : ByteArray) (w : World) (hs : (s.size : Int) ≤ 1048576) : Calls Tryd.prog 6 #[.string s] w fun e w' => e = .returned (.bool true) ∧ w' = w := by
  go_enter Tryd.func6, Tryd.ntmps6
  go_wp2
  all_goals first | (exfalso; omega) | (go_ret; exact ⟨rfl, rfl⟩)
theorem zz6_long (s : ByteArray) (w : World) (hs : 1048577 ≤ (s.size : Int)) : Calls Tryd.prog 6 #[.string s] w fun e w' => e = .returned (.bool false) ∧ w' = w := by
  go_enter Tryd.func6, Tryd.ntmps6
  go_wp2
  all_goals first | (exfalso; omega) | (go_ret; exact ⟨rfl, rfl⟩)
set_option maxHeartbeats 1000000 in
theorem model_hex (s : ByteArray) (w : World) (hs : (s.size : Int) ≤ 1048576) (x0 x1 : UInt8) (h2 : 2 ≤ s.size) (h0 : s[0]'(by omega) = x0) (h1 : s[1]'(by omega) = x1) (e0 : x0.toNat = 48) (e1 : x1.toNat = 120 ∨ x1.toNat = 88) (r : Bool) (hr : (s.data.toList.drop 2).all (fun b => hexB b.toNat) = r) :
    Calls Tryd.prog 8 #[.string s] w fun e w' => e = .returned (.bool r) ∧ w' = w := by
  have hI : (2 : Int) ≤ s.size := by omega
  have E0 : ((s[0]'(by omega)).toNat : Int) = 48 := by rw [h0]; omega
  have HR := hide hr
  have HH := hide (fun n => hex_any n w)
  have hx : ((s[1]'(by omega)).toNat : Int) = 120 ∨ ((s[1]'(by omega)).toNat : Int) = 88 := by rw [h1]; omega
  clear hr h0 h1
  rcases hx with E1 | E1
  all_goals (
    go_enter Tryd.func8, Tryd.ntmps8
    go_wp2_with fail
    all_goals first | (exfalso; omega) | skip
    go_loop [3] (fun ii => ∃ i : Nat, 2 ≤ i ∧ i ≤ s.size ∧ ii = .int .i64 i ∧ Hid (∀ t b, 2 ≤ t → t < i → s.data.toList[t]? = some b → hexB b.toNat = true)) (fun ii => s.size - (intOf ii).toNat)
    case atStart => exact ⟨2, by omega, by omega, rfl, fun t b h1 h2 => by omega⟩
    case round =>
      obtain ⟨i, hi2, hi, rfl, hA⟩ := hrel
      by_cases hlt : i < s.size
      · have hltI : (i : Int) < s.size := by omega
        obtain ⟨x, hx⟩ : ∃ x, s[i]'hlt = x := ⟨_, rfl⟩
        have HXL := hide (at_list s i hlt)
        rw [hx] at HXL
        have hxs : ((s[i]'hlt).toNat : Int) = (x.toNat : Int) := by rw [hx]
        have HX := hide ((unhide HH) x.toNat)
        obtain ⟨d, hd⟩ : ∃ d, hexB x.toNat = d := ⟨_, rfl⟩
        rw [hd] at HX
        have HDD := hide hd
        clear hd hx
        cases d
        · have er : r = false := by rw [← unhide HR]; exact all_false 2 i x hi2 (unhide HXL) (unhide HDD)
          subst er
          go_wp2_with fail
          refine (unhide HX).mono ?_
          rintro e w' ⟨rfl, rfl⟩
          go_wp2_with fail
          go_ret
          exact ⟨rfl, rfl⟩
        · go_wp2_with fail
          refine (unhide HX).mono ?_
          rintro e w' ⟨rfl, rfl⟩
          go_wp2_with fail
          go_round
          case rel =>
            refine ⟨i + 1, by omega, by omega, by go_num, fun t b h1 ht hb => ?_⟩
            by_cases e : t = i
            · subst e
              rw [unhide HXL] at hb
              cases hb
              exact unhide HDD
            · exact unhide hA t b h1 (by omega) hb
          case measure => simp [intOf]; omega
      · have hge : ¬ ((i : Int) < s.size) := by omega
        have er : r = true := by
          rw [← unhide HR]
          refine all_true 2 fun t b h1 hb => unhide hA t b h1 ?_ hb
          have := (List.getElem?_eq_some_iff.1 hb).1
          rw [len_list] at this
          omega
        subst er
        go_wp2_with fail
        go_ret
        exact ⟨rfl, rfl⟩)
set_option maxRecDepth 100000 in
set_option maxHeartbeats 1000000 in
theorem model_dec (s : ByteArray) (w : World) (hs : (s.size : Int) ≤ 1048576)
    (hc : (s.size : Int) ≤ 1 ∨ (∃ h : 2 ≤ s.size, (2 : Int) ≤ s.size ∧ (((s[0]'(by omega)).toNat : Int) ≠ 48 ∨ (((s[0]'(by omega)).toNat : Int) = 48 ∧ ((s[1]'(by omega)).toNat : Int) ≠ 120 ∧ ((s[1]'(by omega)).toNat : Int) ≠ 88)))) (r : Bool) (hr : (s.data.toList.drop 0).all (fun b => decB b.toNat) = r) :
    Calls Tryd.prog 8 #[.string s] w fun e w' => e = .returned (.bool r) ∧ w' = w := by
  have HR := hide hr
  have HH := hide (fun n => dec_any n w)
  clear hr
  have hc' : (s.size : Int) ≤ 1 ∨ (∃ h : 2 ≤ s.size, (2 : Int) ≤ s.size ∧ (((s[0]'(by omega)).toNat : Int) < 48 ∨ 48 < ((s[0]'(by omega)).toNat : Int) ∨ (((s[0]'(by omega)).toNat : Int) = 48 ∧ (((s[1]'(by omega)).toNat : Int) == 120) = false ∧ (((s[1]'(by omega)).toNat : Int) == 88) = false))) := by
    rcases hc with h | ⟨h2, h3, h⟩
    · exact .inl h
    · exact .inr ⟨h2, h3, by simp only [beq_eq_false_iff_ne]; omega⟩
  clear hc
  rcases hc' with hI | ⟨h2, hI, E0 | E0 | ⟨E0, E1, E2⟩⟩
  all_goals (
    go_enter Tryd.func8, Tryd.ntmps8
    go_wp2_with fail
    all_goals first | (exfalso; omega) | (exfalso; simp only [beq_iff_eq] at *; omega) | skip
    go_loop [4] (fun ii => ∃ i : Nat, i ≤ s.size ∧ ii = .int .i64 i ∧ Hid (∀ t b, 0 ≤ t → t < i → s.data.toList[t]? = some b → decB b.toNat = true)) (fun ii => s.size - (intOf ii).toNat)
    case atStart => exact ⟨0, by omega, rfl, fun t b h1 h2 => by omega⟩
    case round =>
      obtain ⟨i, hi, rfl, hA⟩ := hrel
      by_cases hlt : i < s.size
      · have hltI : (i : Int) < s.size := by omega
        obtain ⟨x, hx⟩ : ∃ x, s[i]'hlt = x := ⟨_, rfl⟩
        have HXL := hide (at_list s i hlt)
        rw [hx] at HXL
        have hxs : ((s[i]'hlt).toNat : Int) = (x.toNat : Int) := by rw [hx]
        have HX := hide ((unhide HH) x.toNat)
        obtain ⟨d, hd⟩ : ∃ d, decB x.toNat = d := ⟨_, rfl⟩
        rw [hd] at HX
        have HDD := hide hd
        clear hd hx
        cases d
        · have er : r = false := by rw [← unhide HR]; exact all_false 0 i x (Nat.zero_le _) (unhide HXL) (unhide HDD)
          subst er
          go_wp2_with fail
          refine (unhide HX).mono ?_
          rintro e w' ⟨rfl, rfl⟩
          go_wp2_with fail
          go_ret
          exact ⟨rfl, rfl⟩
        · go_wp2_with fail
          refine (unhide HX).mono ?_
          rintro e w' ⟨rfl, rfl⟩
          go_wp2_with fail
          go_round
          case rel =>
            refine ⟨i + 1, by omega, by go_num, fun t b h1 ht hb => ?_⟩
            by_cases e : t = i
            · subst e
              rw [unhide HXL] at hb
              cases hb
              exact unhide HDD
            · exact unhide hA t b h1 (by omega) hb
          case measure => simp [intOf]; omega
      · have hge : ¬ ((i : Int) < s.size) := by omega
        have er : r = true := by
          rw [← unhide HR]
          refine all_true 0 fun t b h1 hb => unhide hA t b h1 ?_ hb
          have := (List.getElem?_eq_some_iff.1 hb).1
          rw [len_list] at this
          omega
        subst er
        go_wp2_with fail
        go_ret
        exact ⟨rfl, rfl⟩)
theorem is0x_at (s : ByteArray) (h : 2 ≤ s.size) : is0x s.data.toList = ((s[0]'(by omega)).toNat == 48 && ((s[1]'(by omega)).toNat == 120 || (s[1]'(by omega)).toNat == 88)) := by
  have e0 := at_list s 0 (by omega)
  have e1 := at_list s 1 (by omega)
  generalize s.data.toList = l at e0 e1 ⊢
  match l, e0, e1 with
  | a :: b :: _, e0, e1 =>
    simp only [List.getElem?_cons_zero, List.getElem?_cons_succ, Option.some.injEq] at e0 e1
    subst e0 e1
    rfl
theorem is0x_short (s : ByteArray) (h : s.size ≤ 1) : is0x s.data.toList = false := by
  have e := len_list s
  generalize s.data.toList = l at e ⊢
  match l, e with
  | [], _ => rfl
  | [_], _ => rfl
  | _ :: _ :: _, e => simp at e; omega
theorem model_any (s : ByteArray) (w : World) (hs : (s.size : Int) ≤ 1048576) : Calls Tryd.prog 8 #[.string s] w fun e w' => e = .returned (.bool (model s.data.toList)) ∧ w' = w := by
  by_cases h2 : 2 ≤ s.size
  · have e := is0x_at s h2
    unfold model
    by_cases hx : is0x s.data.toList = true
    · rw [if_pos hx]
      rw [hx] at e
      simp only [Bool.true_eq, Bool.and_eq_true, Bool.or_eq_true, beq_iff_eq] at e
      exact model_hex s w hs _ _ h2 rfl rfl e.1 e.2 _ rfl
    · rw [if_neg hx]
      have hx : is0x s.data.toList = false := by simpa using hx
      rw [hx] at e
      refine model_dec s w hs (.inr ⟨h2, by omega, ?_⟩) _ rfl
      by_cases h0 : (s[0]'(by omega)).toNat = 48
      · right
        rw [h0] at e
        simp at e
        exact ⟨by omega, by omega, by omega⟩
      · left; omega
  · unfold model
    rw [is0x_short s (by omega)]
    exact model_dec s w hs (.inl (by omega)) _ rfl
end Go.Proofs.Qxb6601037aDoor
