/-
  isNumber and the law, walked.
-/
import Derived.Test.Qxb6601037aDoorN3
import Derived.Test.Qxb6601037aDoorShelf
namespace Go.Proofs.Qxb6601037aDoor
open Go.RowKit
set_option linter.unusedSimpArgs false
theorem enc_len (r : Int) : (Lib.encodeRune r).length ≤ 4 := by
  unfold Lib.encodeRune Lib.encodeRuneZ
  rw [List.length_map]
  repeat' split
  all_goals simp
theorem map_len (f : Int → Int) : ∀ (n : Nat) (l : List UInt8), (Lib.mapGoD f n l).length ≤ 4 * n
  | 0, _ => by simp [Lib.mapGoD]
  | n + 1, l => by
    unfold Lib.mapGoD
    split
    · simp
    · rw [List.length_append]
      have := map_len f n (l.drop (Lib.decodeL l).2)
      have h2 : (if 0 ≤ f (Lib.decodeL l).1 then Lib.encodeRune (f (Lib.decodeL l).1) else []).length ≤ 4 := by
        split
        · exact enc_len _
        · simp
      omega
theorem low_len (l : List UInt8) : (Lib.toLowerD l).length ≤ 4 * l.length := map_len _ _ _
theorem num12 (s : ByteArray) (w : World) (hs : (s.size : Int) ≤ 1048576) (hV : Lib.CaseVar 0 Lib.caseA w) (hT : Lib.Utf8Tabs 2 3 w) :
    Calls Tryd.prog 12 #[.string s] w fun e w' => e = .returned (.bool (model s.data.toList)) ∧ Below w.heap.size w w' := by
  have hlaw := number_law s.data.toList
  have HL := hide (Tryd.strings_ToLower_any s w (by omega) hV hT)
  obtain ⟨lo, hlo⟩ : ∃ lo, Lib.toLowerD s.data.toList = lo := ⟨_, rfl⟩
  have hll : lo.length ≤ 4 * s.size := by rw [← hlo, ← len_list]; exact low_len _
  rw [hlo] at hlaw HL
  have HC := hide (fun W => Tryd.strings_CutPrefix ⟨lo.toArray⟩ ⟨#[48, 120]⟩ W)
  obtain ⟨p, hp⟩ : ∃ p, Lib.hasPrefix lo [48, 120] = p := ⟨_, rfl⟩
  have e1 : Lib.hasPrefix (ByteArray.mk lo.toArray).data.toList (ByteArray.mk #[48, 120]).data.toList = p := hp
  have e2 : Lib.trimPrefix (ByteArray.mk lo.toArray).data.toList (ByteArray.mk #[48, 120]).data.toList = if p then lo.drop 2 else lo := by
    show (if Lib.hasPrefix lo [48, 120] then lo.drop 2 else lo) = _
    rw [hp]
  rw [e1, e2] at HC
  rw [hp] at hlaw
  have HLAW := hide hlaw
  generalize hQ : (fun (e : Ending) (w' : World) => e = .returned (.bool (model s.data.toList)) ∧ Below w.heap.size w w') = Q
  have HQ := hide hQ
  have HS : Hid (s.data.toList.length ≤ 1048576 ∧ s.size ≤ 9223372036854775807) := hide ⟨by rw [len_list]; omega, by omega⟩
  clear e1 e2 hp hlaw hlo hQ hV hT
  cases p
  · clear hll
    have HTr := hide (fun W => Tryd.strings_Trim_dec s W HS.out.2)
    go_enter Tryd.func12, Tryd.ntmps12
    go_wp2_with fail
    refine (unhide HL).mono ?_
    rintro e w1 ⟨rfl, hb1⟩
    have HB1 := hide hb1
    clear hb1
    go_wp2_with fail
    refine (unhide HC w1).mono ?_
    rintro e w2 ⟨rfl, rfl⟩
    go_wp2_with fail
    refine (unhide HTr w2).mono ?_
    rintro e w3 ⟨rfl, hb3⟩
    have HB3 := hide (HB1.out.trans (hb3.mono HB1.out.size))
    clear hb3
    go_wp2_with fail
    rw [← HQ.out]
    refine ⟨ret_bool ?_, HB3.out⟩
    rw [← HLAW.out]
    rfl
  · have HTr := hide (fun W => Tryd.strings_Trim_hex ⟨(lo.drop 2).toArray⟩ W (by
      have h : (ByteArray.mk (lo.drop 2).toArray).size = (lo.drop 2).length := by rw [← len_list]
      rw [h, List.length_drop]
      omega))
    clear hll
    go_enter Tryd.func12, Tryd.ntmps12
    go_wp2_with fail
    refine (unhide HL).mono ?_
    rintro e w1 ⟨rfl, hb1⟩
    have HB1 := hide hb1
    clear hb1
    go_wp2_with fail
    refine (unhide HC w1).mono ?_
    rintro e w2 ⟨rfl, rfl⟩
    go_wp2_with fail
    refine (unhide HTr w2).mono ?_
    rintro e w3 ⟨rfl, hb3⟩
    have HB3 := hide (HB1.out.trans (hb3.mono HB1.out.size))
    clear hb3
    go_wp2_with fail
    rw [← HQ.out]
    refine ⟨ret_bool ?_, HB3.out⟩
    rw [← HLAW.out]
    rfl
theorem num7 (s : ByteArray) (w : World) (hs : (s.size : Int) ≤ 1048576) (hV : Lib.CaseVar 0 Lib.caseA w) (hT : Lib.Utf8Tabs 2 3 w) :
    Calls Tryd.prog 7 #[.string s] w fun e w' => e = .returned (.bool (model s.data.toList)) ∧ Below w.heap.size w w' := by
  have HN := hide (num12 s w hs hV hT)
  generalize model s.data.toList = m at HN ⊢
  go_enter Tryd.func7, Tryd.ntmps7
  go_wp2_with fail
  refine (unhide HN).mono ?_
  rintro e w1 ⟨rfl, hb1⟩
  go_wp2_with fail
  first | exact ⟨rfl, hb1⟩ | (go_ret; exact ⟨rfl, hb1⟩)
theorem law3 (s : ByteArray) (w : World) (hV : Lib.CaseVar 0 Lib.caseA w) (hT : Lib.Utf8Tabs 2 3 w) :
    Calls Tryd.prog 3 #[.string s] w fun e w' => e = .returned (.bool true) ∧ Below w.heap.size w w' := by
  by_cases hs : (s.size : Int) ≤ 1048576
  · have HN := hide (num7 s w hs hV hT)
    have HM := hide (fun W => model_any s W hs)
    have HZ := hide (zz6 s w hs)
    generalize model s.data.toList = m at HN HM
    clear hV hT
    go_enter Tryd.func3, Tryd.ntmps3
    go_wp2_with fail
    refine (unhide HZ).mono ?_
    rintro e w0 ⟨rfl, h0⟩
    obtain rfl : w = w0 := h0.symm
    clear h0
    go_wp2_with fail
    refine (unhide HN).mono ?_
    rintro e w1 ⟨rfl, hb1⟩
    have HB1 := hide hb1
    clear hb1
    cases m
    all_goals (
      go_wp2_with fail
      refine (unhide HM w1).mono ?_
      rintro e w2 ⟨rfl, h2⟩
      obtain rfl : w1 = w2 := h2.symm
      clear h2
      go_wp2_with fail
      first | exact ⟨rfl, HB1.out⟩ | (go_ret; exact ⟨rfl, HB1.out⟩))
  · have HZ := hide (zz6_long s w (by omega))
    clear hs hV hT
    go_enter Tryd.func3, Tryd.ntmps3
    go_wp2_with fail
    refine (unhide HZ).mono ?_
    rintro e w0 ⟨rfl, h0⟩
    obtain rfl : w = w0 := h0.symm
    clear h0
    go_wp2_with fail
    all_goals first | exact ⟨rfl, Below.refl _ _⟩ | (go_ret; exact ⟨rfl, Below.refl _ _⟩)
end Go.Proofs.Qxb6601037aDoor
