/-
  internal/strconv.fmtEFG at f, prec 3: zero.
-/
import Derived.Test.Qxb6614386aDoorW4
namespace Go.Proofs.Qxb6614386aDoor
open Go.RowKit Ms Go.Sort
set_option maxRecDepth 100000 in
set_option maxHeartbeats 4000000 in
theorem fmtF_zero (D : Nat) (w : World) (hown : Own D [] w) :
    Calls Tryd.prog 21 #[.slice (some ⟨D, 0, none⟩) 0 24, .bool false, .slice none 0 0, .int .i64 0, .int .i64 0, .int .i64 3, .int .u8 102, .bool false] w fun e w' =>
      e = .returned (.slice (some ⟨D, 0, none⟩) 5 24) ∧ Own D [48, 46, 48, 48, 48] w' ∧ w.grownBy w' (some D) := by
  generalize hQ : (fun (e : Ending) (w' : World) => e = .returned (.slice (some ⟨D, 0, none⟩) 5 24) ∧ Own D [48, 46, 48, 48, 48] w' ∧ w.grownBy w' (some D)) = Q
  have HQ : Hid _ := hQ; clear hQ
  have h30 : min (3 : Int) 0 = 0 := by decide
  have h03 : max (0 : Int) 3 = 3 := by decide
  go_enter Tryd.func21, Tryd.ntmps21
  go_wp2_with (first | (at_builtin; refine app1 w rfl (.tmp 209) (.tmp 210) rfl D 0 [] 48 _ rfl rfl rfl rfl hown (by decide) ?_; intro wb hOB hGB) | (at_builtin; refine app1 wb rfl (.tmp 214) (.tmp 215) rfl D 1 [48] 46 _ rfl rfl rfl rfl hOB (by decide) ?_; intro wc hOL hGC))
  have hGL := grownBy_trans hGB hGC
  clear hOB hGB hGC
  refine wp_loop_rounds 1 ?_
  rw [rounds_succ]
  go_wp2_with fail
  refine wp_loop_rounds 1 ?_
  rw [rounds_succ]
  go_wp2_with fail
  have hNL : Hid (2 = 0 + 1 + 1 + 0) := rfl
  go_loopw [0, 261] (fun v i wr => ∃ j n : Nat, j ≤ 3 ∧ Hid (n = 0 + 1 + 1 + j) ∧ i = .int .i64 j ∧ v = .slice (some ⟨D, 0, none⟩) n 24 ∧ Own D ((([] ++ [48]) ++ [46]) ++ List.replicate j 48) wr ∧ w.grownBy wr (some D)) (fun _ i _ => 3 - (intOf i).toNat)
  case atStart => exact ⟨0, _, Nat.zero_le _, hNL, rfl, rfl, by simpa using hOL, hGL⟩
  case round =>
    obtain ⟨j, n, hj, hnR, rfl, rfl, hownR, hgR⟩ := hrel
    clear hOL hGL hNL
    by_cases hlt : j < 3
    · have hn24 : n < 24 := by have := hnR.out; omega
      have hlen : Hid (List.length (((([] ++ [48]) ++ [46]) ++ List.replicate j 48) : List UInt8) = n) := by have := hnR.out; show List.length _ = n; simp; omega
      go_wp2_with (first | (at_builtin; refine app1 wr rfl (.tmp 263) (.tmp 264) rfl D n ((([] ++ [48]) ++ [46]) ++ List.replicate j 48) 48 _ rfl hlen.out rfl rfl hownR hn24 ?_; intro w1 hown1 hgrow1))
      go_roundw
      case rel =>
        have hown2 : Own D ((([] ++ [48]) ++ [46]) ++ List.replicate (j + 1) 48) w1 := by rw [rep_succ, ← List.append_assoc]; exact hown1
        have hgr2 := grownBy_trans hgR hgrow1
        have hnr2 : Hid (n + 1 = 0 + 1 + 1 + (j + 1)) := by have := hnR.out; show n + 1 = _; omega
        first | exact ⟨j + 1, n + 1, by omega, hnr2, by go_num, rfl, hown2, hgr2⟩ | ((repeat apply Exists.intro); exact ⟨⟨j + 1, n + 1, by omega, hnr2, by go_num, rfl, hown2, hgr2⟩, rfl⟩)
      case measure => simp [intOf]; omega
    · have hje : 3 = j := by omega
      subst hje
      go_wp2_with fail
      rw [← HQ.out]
      have hn5 : n = 5 := hnR
      subst hn5
      exact ⟨rfl, hownR, hgR⟩
end Go.Proofs.Qxb6614386aDoor
