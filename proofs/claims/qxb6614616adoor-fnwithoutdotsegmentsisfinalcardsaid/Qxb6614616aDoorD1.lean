/-
  The law's own small functions.
-/
import Derived.Test.Qxb6614616aDoorP1
import Derived.Test.Qxb6614616aDoorShelf
import Derived.Test.Qxb6614616aDoorShelfB
import Derived.WalkKit
import Derived.WalkSpells
import Derived.WalkLawsBesides
import Derived.Deep.QuietTactic
import Derived.BigQuiet
import Derived.Handy
import Derived.Lib.Strings
namespace Go.Proofs.Qxb6614616aDoor
open Go.RowKit
set_option linter.unusedSimpArgs false
theorem hide {p : Prop} (h : p) : Hid p := h
theorem unhide {p : Prop} (h : Hid p) : p := h
theorem ret_bool {a b : Bool} (h : a = b) : Ending.returned (.bool a) = .returned (.bool b) := by rw [h]
abbrev L (s : ByteArray) : List UInt8 := s.data.toList
abbrev ofL (l : List UInt8) : ByteArray := ⟨l.toArray⟩
theorem L_len (s : ByteArray) : (L s).length = s.size := by rw [Array.length_toList]; rfl
theorem ofL_L (s : ByteArray) : ofL (L s) = s := by cases s; simp [ofL, L]
theorem L_ofL (l : List UInt8) : L (ofL l) = l := by simp [ofL, L]
theorem size_ofL (l : List UInt8) : (ofL l).size = l.length := by rw [← L_len]
theorem L_inj {s t : ByteArray} (h : L s = L t) : s = t := by rw [← ofL_L s, ← ofL_L t, h]
theorem L_ext (s : ByteArray) (a b : Nat) : L (s.extract a b) = ((L s).drop a).take (b - a) := by
  show (s.extract a b).data.toList = _
  rw [ByteArray.data_extract, Array.toList_extract]
theorem tl_L (s : ByteArray) : s.toList = L s := by
  have := Lib.extract_toList s 0 s.size
  have e2 : ((L s).drop 0).take (s.size - 0) = L s := by
    rw [List.drop_zero, Nat.sub_zero, List.take_of_length_le (Nat.le_of_eq (L_len s))]
  have e : s.extract 0 s.size = s := L_inj (by rw [L_ext]; exact e2)
  rw [e] at this
  rw [this]
  exact e2
theorem at_list (s : ByteArray) (i : Nat) (h : i < s.size) : (L s)[i]? = some (s[i]'h) := by
  show s.data.toList[i]? = _
  rw [Array.getElem?_toList]
  exact Array.getElem?_eq_getElem h
theorem suf12 (s p : ByteArray) (w : World) (hs : (s.size : Int) ≤ 1048576) (hp : (p.size : Int) ≤ 1048576) (r : Bool) (hr : r = (decide (p.size ≤ s.size) && (L s).drop (s.size - p.size) == L p)) : Calls Tryd.prog 12 #[.string s, .string p] w fun e w' => e = .returned (.bool r) ∧ w' = w := by
  have HR := hide hr
  clear hr
  by_cases h : p.size ≤ s.size
  · go_enter Tryd.func12, Tryd.ntmps12
    go_wp2
    go_ret
    refine ⟨ret_bool ?_, rfl⟩
    rw [unhide HR]
    simp only [h, tl_L, L_ext]
    rw [List.take_of_length_le (by rw [List.length_drop, L_len]; omega)]
    simp
  · go_enter Tryd.func12, Tryd.ntmps12
    go_wp2
    go_ret
    refine ⟨ret_bool ?_, rfl⟩
    rw [unhide HR]
    simp [h]
theorem dot28 (n : Int) (slash last : Bool) (w : World) (hn : n = 0 ∨ n = 1 ∨ n = 2) : Calls Tryd.prog 28 #[.int .i64 n, .bool slash, .bool last] w fun e w' => e = .returned (.tuple #[.bool (slash && decide (n = 2)), .bool (slash && (decide (n = 0) || last)), .bool (slash || decide (n = 0))]) ∧ w' = w := by
  rcases hn with rfl | rfl | rfl <;> cases slash <;> cases last
  all_goals (
    go_enter Tryd.func28, Tryd.ntmps28
    go_wp2
    all_goals first | exact ⟨rfl, rfl⟩ | (go_ret3; exact ⟨rfl, rfl⟩))
theorem zz9 (a b c d e f : ByteArray) (b1 b2 b3 b4 : Bool) (w : World) (h : (a.size : Int) + b.size + c.size + d.size + e.size + f.size ≤ 1048576) :
    Calls Tryd.prog 9 #[.string a, .string b, .string c, .string d, .string e, .string f, .bool b1, .bool b2, .bool b3, .bool b4] w fun e w' => e = .returned (.bool true) ∧ w' = w := by
  go_enter Tryd.func9, Tryd.ntmps9
  go_wp2
  all_goals first | (exfalso; omega) | (go_ret; exact ⟨rfl, rfl⟩)
set_option maxHeartbeats 1000000 in
theorem last11 (s : ByteArray) (w : World) (hs : (s.size : Int) ≤ 1048576) : Calls Tryd.prog 11 #[.string s] w fun e w' => e = .returned (.string (ofL (lastSeg (L s)))) ∧ w' = w := by
  obtain ⟨z, hz⟩ : ∃ z, lastSeg (L s) = z := ⟨_, rfl⟩
  rw [hz]
  have HZ := hide hz
  clear hz
  go_enter Tryd.func11, Tryd.ntmps11
  go_wp2
  go_loop [3] (fun ii => ∃ i : Nat, i ≤ s.size ∧ ii = .int .i64 i ∧ Hid (no47 ((L s).drop i))) (fun ii => (intOf ii).toNat)
  case atStart => exact ⟨s.size, Nat.le_refl _, rfl, fun b hb => by rw [List.drop_of_length_le (Nat.le_of_eq (L_len s))] at hb; cases hb⟩
  case round =>
    obtain ⟨i, hi, rfl, hA⟩ := hrel
    by_cases h0 : i = 0
    · subst h0
      have e2 : s = ofL z := by
        rw [← HZ.out]
        have h1 : lastSeg (L s) = L s := ls_no47 (L s) [] (by simpa using hA.out)
        rw [h1, ofL_L]
      have HE := hide e2
      clear e2
      go_wp2
      go_ret
      refine ⟨?_, rfl⟩
      rw [← HE.out]
      rfl
    · obtain ⟨j, rfl⟩ : ∃ j, i = j + 1 := ⟨i - 1, by omega⟩
      have hj : j < s.size := by omega
      obtain ⟨x, hx⟩ : ∃ x, s[j]'hj = x := ⟨_, rfl⟩
      have hxl := at_list s j hj
      rw [hx] at hxl
      have hdrop : (L s).drop j = x :: (L s).drop (j + 1) := by
        obtain ⟨hl, hx'⟩ := List.getElem?_eq_some_iff.1 hxl
        rw [List.drop_eq_getElem_cons hl, hx']
      have HD := hide hdrop
      have hxs : ((s[j]'hj).toNat : Int) = (x.toNat : Int) := by rw [hx]
      have hjI : (j : Int) < s.size := by omega
      clear hdrop hxl
      by_cases h47 : x = 47
      · have e47 : (x.toNat : Int) = 47 := by rw [h47]; rfl
        have ez : (L s).drop (j + 1) = z := by
          rw [← HZ.out]
          have e1 : L s = (L s).take j ++ 47 :: (L s).drop (j + 1) := by
            have := List.take_append_drop j (L s)
            rw [HD.out, h47] at this
            exact this.symm
          have e2 : lastSeg (L s) = ls [] ((L s).drop (j + 1)) := by
            show ls [] (L s) = _
            conv => lhs; rw [e1]
            exact ls_app _ _ _
          rw [e2, ls_no47 _ [] hA.out]
          rfl
        have HE := hide ez
        clear ez h47 hx
        go_wp2
        all_goals first | (exfalso; omega) | skip
        go_ret
        refine ⟨?_, rfl⟩
        have e2 : s.extract (j + 1) s.size = ofL z := by
          refine L_inj ?_
          rw [L_ext, L_ofL, ← HE.out, List.take_of_length_le (by rw [List.length_drop, L_len]; omega)]
        rw [← e2]
        rfl
      · have hne : (x.toNat : Int) ≠ 47 := fun h => h47 (UInt8.toNat_inj.1 (by simpa using (by omega : x.toNat = 47)))
        have hnb : ((x.toNat : Int) == 47) = false := by simpa using hne
        clear hx
        go_wp2
        all_goals first | (exfalso; omega) | skip
        go_round
        case rel =>
          refine ⟨j, by omega, by go_num, fun b hb => ?_⟩
          rw [HD.out] at hb
          rcases List.mem_cons.1 hb with rfl | hb
          · exact h47
          · exact hA.out b hb
        case measure => simp [intOf]
end Go.Proofs.Qxb6614616aDoor
