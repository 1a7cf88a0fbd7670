/-
  iriB1HoldsDot, walked.
-/
import Derived.Test.Qxb6614616aDoorD1
namespace Go.Proofs.Qxb6614616aDoor
open Go.RowKit
set_option linter.unusedSimpArgs false
theorem dot_one (s : ByteArray) : (s.toList == [46]) = (L s == [46]) := by rw [tl_L]
theorem tl46 : (ByteArray.mk #[46]).toList = [46] := by rw [tl_L]
theorem tl4646 : (ByteArray.mk #[46, 46]).toList = [46, 46] := by rw [tl_L]
theorem ext_len (s : ByteArray) (a b : Nat) (h : b ≤ s.size) : (s.extract a b).size = b - a := by
  rw [← L_len, L_ext, List.length_take, List.length_drop, L_len]; omega
set_option maxHeartbeats 2000000 in
set_option maxRecDepth 100000 in
theorem holds10 (s : ByteArray) (w : World) (hs : (s.size : Int) ≤ 1048576) (r : Bool) (hr : holdsDot (L s) = r) : Calls Tryd.prog 10 #[.string s] w fun e w' => e = .returned (.bool r) ∧ w' = w := by
  have HR := hide hr
  clear hr
  go_enter Tryd.func10, Tryd.ntmps10
  go_wp2
  go_loop [3, 4] (fun st ii => ∃ a i : Nat, a ≤ i ∧ i ≤ s.size + 1 ∧ a ≤ s.size + 1 ∧ st = .int .i64 a ∧ ii = .int .i64 i ∧ (i ≤ s.size → Hid (hd (((L s).drop a).take (i - a)) ((L s).drop i) = r)) ∧ (i = s.size + 1 → r = false)) (fun st ii => s.size + 1 - (intOf ii).toNat)
  case atStart => exact ⟨0, 0, Nat.le_refl _, by omega, by omega, rfl, rfl, fun _ => hide (by have := HR.out; unfold holdsDot at this; simpa using this), fun h => by omega⟩
  case round =>
    obtain ⟨a, i, hai, hi, ha, rfl, rfl, hA, hF⟩ := hrel
    by_cases hend : i = s.size + 1
    · have er := hF hend
      subst er
      subst hend
      go_wp2
      all_goals first | (exfalso; omega) | skip
      go_ret
      exact ⟨rfl, rfl⟩
    · have hi' : i ≤ s.size := by omega
      have hA := hA hi'
      have hiI : (i : Int) ≤ s.size := by omega
      have haI : (a : Int) ≤ i := by omega
      clear hF
      obtain ⟨g, hg⟩ : ∃ g, s.extract a i = g := ⟨_, rfl⟩
      have hgl : L g = ((L s).drop a).take (i - a) := by rw [← hg, L_ext]
      rw [← hgl] at hA
      obtain ⟨t1, ht1⟩ : ∃ t1, (g.toList == [46]) = t1 := ⟨_, rfl⟩
      obtain ⟨t2, ht2⟩ : ∃ t2, (g.toList == [46, 46]) = t2 := ⟨_, rfl⟩
      have hdot : isDot (L g) = (t1 || t2) := by rw [← ht1, ← ht2, tl_L]; rfl
      have HD := hide hdot
      have HGL := hide hgl
      clear hdot hgl HR
      by_cases hlt : i < s.size
      · have hltI : (i : Int) < s.size := by omega
        have hneI : ¬ ((i : Int) = s.size) := by omega
        obtain ⟨x, hx⟩ : ∃ x, s[i]'hlt = x := ⟨_, rfl⟩
        have hxl := at_list s i hlt
        rw [hx] at hxl
        have hdrop : (L s).drop i = x :: (L s).drop (i + 1) := by
          obtain ⟨hl, hx'⟩ := List.getElem?_eq_some_iff.1 hxl
          rw [List.drop_eq_getElem_cons hl, hx']
        have HDR := hide hdrop
        have hxs : ((s[i]'hlt).toNat : Int) = (x.toNat : Int) := by rw [hx]
        have HXL := hide hxl
        clear hdrop hxl hx
        by_cases h47 : x = 47
        · have e47 : (x.toNat : Int) = 47 := by rw [h47]; rfl
          have hr : r = (isDot (L g) || hd [] ((L s).drop (i + 1))) := by
            rw [← hA.out, HDR.out, h47, hd, if_pos rfl]
          have HR := hide hr
          clear hr hA h47
          cases t1
          · cases t2
            · have n1 : ¬ (g.toList = [46]) := by simpa using ht1
              have n2 : ¬ (g.toList = [46, 46]) := by simpa using ht2
              go_wp2
              all_goals first | (exfalso; omega) | skip
              go_round
              case rel =>
                refine ⟨i + 1, i + 1, Nat.le_refl _, by omega, by omega, by go_num, by go_num, fun _ => hide ?_, fun h => ?_⟩
                · rw [HR.out, HD.out, Nat.sub_self, List.take_zero]; rfl
                · omega
              case measure => simp [intOf]; omega
            · have n1 : ¬ (g.toList = [46]) := by simpa using ht1
              have n2 : g.toList = [46, 46] := by simpa using ht2
              have er : r = true := by rw [HR.out, HD.out]; rfl
              subst er
              clear HD
              go_wp2
              all_goals first | (exfalso; omega) | skip
              go_ret
              exact ⟨rfl, rfl⟩
          · have n1 : g.toList = [46] := by simpa using ht1
            have er : r = true := by rw [HR.out, HD.out]; rfl
            subst er
            clear HD ht2
            go_wp2
            all_goals first | (exfalso; omega) | skip
            go_ret
            exact ⟨rfl, rfl⟩
        · have hne : (x.toNat : Int) ≠ 47 := fun h => h47 (UInt8.toNat_inj.1 (by simpa using (by omega : x.toNat = 47)))
          have hnb : ((x.toNat : Int) == 47) = false := by simpa using hne
          have hr : hd (L g ++ [x]) ((L s).drop (i + 1)) = r := by
            rw [← hA.out, HDR.out, hd, if_neg h47]
          have HR := hide hr
          clear hr hA ht1 ht2
          go_wp2
          all_goals first | (exfalso; omega) | skip
          go_round
          case rel =>
            refine ⟨a, i + 1, by omega, by omega, by omega, by go_num, by go_num, fun _ => hide ?_, fun h => ?_⟩
            · rw [← HR.out, HGL.out]
              congr 1
              have e1 : i + 1 - a = (i - a) + 1 := by omega
              rw [e1, List.take_add_one, List.getElem?_drop]
              have e2 : a + (i - a) = i := by omega
              rw [e2, HXL.out]
              rfl
            · omega
          case measure => simp [intOf]; omega
      · obtain rfl : i = s.size := by omega
        have hr : r = isDot (L g) := by
          rw [← hA.out, List.drop_of_length_le (Nat.le_of_eq (L_len s))]; rfl
        have HR := hide hr
        clear hr hA
        cases t1
        · cases t2
          · have n1 : ¬ (g.toList = [46]) := by simpa using ht1
            have n2 : ¬ (g.toList = [46, 46]) := by simpa using ht2
            go_wp2
            all_goals first | (exfalso; omega) | skip
            go_round
            case rel =>
              refine ⟨s.size + 1, s.size + 1, Nat.le_refl _, by omega, by omega, by go_num, by go_num, fun h => ?_, fun h => ?_⟩
              · omega
              · rw [HR.out, HD.out]; rfl
            case measure => simp [intOf]
          · have n1 : ¬ (g.toList = [46]) := by simpa using ht1
            have n2 : g.toList = [46, 46] := by simpa using ht2
            have er : r = true := by rw [HR.out, HD.out]; rfl
            subst er
            clear HD
            go_wp2
            all_goals first | (exfalso; omega) | skip
            go_ret
            exact ⟨rfl, rfl⟩
        · have n1 : g.toList = [46] := by simpa using ht1
          have er : r = true := by rw [HR.out, HD.out]; rfl
          subst er
          clear HD ht2
          go_wp2
          all_goals first | (exfalso; omega) | skip
          go_ret
          exact ⟨rfl, rfl⟩
end Go.Proofs.Qxb6614616aDoor
