/-
  internal/strconv.fmtEFG at f, prec 3: numbers below one.
-/
import Derived.Test.Qxb6614386aDoorW4
namespace Go.Proofs.Qxb6614386aDoor
open Go.RowKit Ms Go.Sort
set_option maxRecDepth 100000 in
set_option maxHeartbeats 4000000 in
theorem fmtF_low_neg (D B z q r : Nat) (f : Nat → UInt8) (w : World) (hr : (3 : Int) - (z : Int) - (q : Int) = (r : Int)) (hmz : max 0 (z : Int) = (z : Int)) (hmz3 : min 3 (z : Int) = (z : Int)) (hmq : max 0 (q : Int) = (q : Int)) (hmq3 : min (3 - (z : Int)) (q : Int) = (q : Int)) (hr3 : max 0 (r : Int) = (r : Int))
    (hown : Own D [] w) (hDB : B ≠ D) (hc : ∀ t, t < q → w.cell? ⟨B, t, none⟩ = some (.int .u8 (f t).toNat)) :
    Calls Tryd.prog 21 #[.slice (some ⟨D, 0, none⟩) 0 24, .bool true, .slice (some ⟨B, 0, none⟩) 24 24, .int .i64 (-(z : Int)), .int .i64 q, .int .i64 3, .int .u8 102, .bool false] w fun e w' =>
      ∃ n, n = List.length ((((([45] ++ [48]) ++ [46]) ++ List.replicate z 48) ++ (List.range q).map f) ++ List.replicate r 48) ∧ e = .returned (.slice (some ⟨D, 0, none⟩) n 24) ∧ Own D ((((([45] ++ [48]) ++ [46]) ++ List.replicate z 48) ++ (List.range q).map f) ++ List.replicate r 48) w' ∧ w.grownBy w' (some D) := by
  have hdz : decide ((0 : Int) < -(z : Int)) = false := by rw [decide_eq_false_iff_not]; omega
  have hoff : -(z : Int) + (z : Int) = 0 := by omega
  have hz3 : z ≤ 3 := by omega
  have hq3 : q ≤ 3 := by omega
  have HC1 : Hid _ := hc; clear hc
  generalize hQ : (fun (e : Ending) (w' : World) => ∃ n, n = List.length ((((([45] ++ [48]) ++ [46]) ++ List.replicate z 48) ++ (List.range q).map f) ++ List.replicate r 48) ∧ e = .returned (.slice (some ⟨D, 0, none⟩) n 24) ∧ Own D ((((([45] ++ [48]) ++ [46]) ++ List.replicate z 48) ++ (List.range q).map f) ++ List.replicate r 48) w' ∧ w.grownBy w' (some D)) = Q
  have HQ : Hid _ := hQ; clear hQ
  go_enter Tryd.func21, Tryd.ntmps21
  go_wp2_with (first | (at_builtin; refine app1 w rfl (.tmp 179) (.tmp 180) rfl D 0 [] 45 _ rfl rfl rfl rfl hown (by decide) ?_; intro wa hOA hGA) | (at_builtin; refine app1 wa rfl (.tmp 209) (.tmp 210) rfl D 1 [45] 48 _ rfl rfl rfl rfl hOA (by decide) ?_; intro wb hOB hGB) | (at_builtin; refine app1 wb rfl (.tmp 214) (.tmp 215) rfl D 2 [45, 48] 46 _ rfl rfl rfl rfl hOB (by decide) ?_; intro wc hOL hGC))
  have hGL := grownBy_trans (grownBy_trans hGA hGB) hGC
  have hNL : Hid (3 = 1 + 1 + 1 + 0) := rfl
  clear hOA hOB hGA hGB hGC
  go_loopw [0, 240] (fun v i wr => ∃ j n : Nat, j ≤ z ∧ Hid (n = 1 + 1 + 1 + j) ∧ i = .int .i64 j ∧ v = .slice (some ⟨D, 0, none⟩) n 24 ∧ Own D ((([45] ++ [48]) ++ [46]) ++ List.replicate j 48) wr ∧ w.grownBy wr (some D)) (fun _ i _ => z - (intOf i).toNat)
  case atStart => exact ⟨0, _, Nat.zero_le _, hNL, rfl, rfl, by simpa using hOL, hGL⟩
  case round =>
    obtain ⟨j, n, hj, hnR, rfl, rfl, hownR, hgR⟩ := hrel
    clear hOL hGL hNL
    by_cases hlt : j < z
    · have hn24 : n < 24 := by have := hnR.out; omega
      have hlen : Hid (List.length (((([45] ++ [48]) ++ [46]) ++ List.replicate j 48) : List UInt8) = n) := by have := hnR.out; show List.length _ = n; simp; omega
      go_wp2_with (first | (at_builtin; refine app1 wr rfl (.tmp 242) (.tmp 243) rfl D n ((([45] ++ [48]) ++ [46]) ++ List.replicate j 48) 48 _ rfl hlen.out rfl rfl hownR hn24 ?_; intro w1 hown1 hgrow1))
      go_roundw
      case rel =>
        have hown2 : Own D ((([45] ++ [48]) ++ [46]) ++ List.replicate (j + 1) 48) w1 := by rw [rep_succ, ← List.append_assoc]; exact hown1
        have hgr2 := grownBy_trans hgR hgrow1
        have hnr2 : Hid (n + 1 = 1 + 1 + 1 + (j + 1)) := by have := hnR.out; show n + 1 = _; omega
        first | exact ⟨j + 1, n + 1, by omega, hnr2, by go_num, rfl, hown2, hgr2⟩ | ((repeat apply Exists.intro); exact ⟨⟨j + 1, n + 1, by omega, hnr2, by go_num, rfl, hown2, hgr2⟩, rfl⟩)
      case measure => simp [intOf]; omega
    · have hje : z = j := by omega
      subst hje
      go_wp2_with fail
      have hOL := hownR
      have hGL := hgR
      have hNL : Hid (n = 1 + 1 + 1 + z + 0) := hnR
      clear hownR hgR hnR
      go_loopw [0, 247] (fun v i wr => ∃ j n : Nat, j ≤ q ∧ Hid (n = 1 + 1 + 1 + z + j) ∧ i = .int .i64 j ∧ v = .slice (some ⟨D, 0, none⟩) n 24 ∧ Own D (((([45] ++ [48]) ++ [46]) ++ List.replicate z 48) ++ (List.range j).map f) wr ∧ w.grownBy wr (some D)) (fun _ i _ => q - (intOf i).toNat)
      case atStart => exact ⟨0, _, Nat.zero_le _, hNL, rfl, rfl, by simpa using hOL, hGL⟩
      case round =>
        obtain ⟨j, n, hj, hnR, rfl, rfl, hownR, hgR⟩ := hrel
        clear hOL hGL hNL
        by_cases hlt : j < q
        · have hn24 : n < 24 := by have := hnR.out; omega
          have hlen : Hid (List.length ((((([45] ++ [48]) ++ [46]) ++ List.replicate z 48) ++ (List.range j).map f) : List UInt8) = n) := by have := hnR.out; show List.length _ = n; simp; omega
          have hcj := grow_cell hgR hDB (HC1.out j hlt)
          go_wp2_with (first | (at_builtin; refine app1 wr rfl (.tmp 250) (.tmp 257) rfl D n (((([45] ++ [48]) ++ [46]) ++ List.replicate z 48) ++ (List.range j).map f) (f j) _ rfl hlen.out rfl rfl hownR hn24 ?_; intro w1 hown1 hgrow1))
          go_roundw
          case rel =>
            have hown2 : Own D (((([45] ++ [48]) ++ [46]) ++ List.replicate z 48) ++ (List.range (j + 1)).map f) w1 := by rw [rng_succ0, ← List.append_assoc]; exact hown1
            have hgr2 := grownBy_trans hgR hgrow1
            have hnr2 : Hid (n + 1 = 1 + 1 + 1 + z + (j + 1)) := by have := hnR.out; show n + 1 = _; omega
            first | exact ⟨j + 1, n + 1, by omega, hnr2, by go_num, rfl, hown2, hgr2⟩ | ((repeat apply Exists.intro); exact ⟨⟨j + 1, n + 1, by omega, hnr2, by go_num, rfl, hown2, hgr2⟩, rfl⟩)
          case measure => simp [intOf]; omega
        · have hje : q = j := by omega
          subst hje
          go_wp2_with fail
          have hOL := hownR
          have hGL := hgR
          have hNL : Hid (n = 1 + 1 + 1 + z + q + 0) := hnR
          clear hownR hgR hnR
          go_loopw [0, 261] (fun v i wr => ∃ j n : Nat, j ≤ r ∧ Hid (n = 1 + 1 + 1 + z + q + j) ∧ i = .int .i64 j ∧ v = .slice (some ⟨D, 0, none⟩) n 24 ∧ Own D ((((([45] ++ [48]) ++ [46]) ++ List.replicate z 48) ++ (List.range q).map f) ++ List.replicate j 48) wr ∧ w.grownBy wr (some D)) (fun _ i _ => r - (intOf i).toNat)
          case atStart => exact ⟨0, _, Nat.zero_le _, hNL, rfl, rfl, by simpa using hOL, hGL⟩
          case round =>
            obtain ⟨j, n, hj, hnR, rfl, rfl, hownR, hgR⟩ := hrel
            clear hOL hGL hNL
            by_cases hlt : j < r
            · have hn24 : n < 24 := by have := hnR.out; omega
              have hlen : Hid (List.length (((((([45] ++ [48]) ++ [46]) ++ List.replicate z 48) ++ (List.range q).map f) ++ List.replicate j 48) : List UInt8) = n) := by have := hnR.out; show List.length _ = n; simp; omega
              go_wp2_with (first | (at_builtin; refine app1 wr rfl (.tmp 263) (.tmp 264) rfl D n ((((([45] ++ [48]) ++ [46]) ++ List.replicate z 48) ++ (List.range q).map f) ++ List.replicate j 48) 48 _ rfl hlen.out rfl rfl hownR hn24 ?_; intro w1 hown1 hgrow1))
              go_roundw
              case rel =>
                have hown2 : Own D ((((([45] ++ [48]) ++ [46]) ++ List.replicate z 48) ++ (List.range q).map f) ++ List.replicate (j + 1) 48) w1 := by rw [rep_succ, ← List.append_assoc]; exact hown1
                have hgr2 := grownBy_trans hgR hgrow1
                have hnr2 : Hid (n + 1 = 1 + 1 + 1 + z + q + (j + 1)) := by have := hnR.out; show n + 1 = _; omega
                first | exact ⟨j + 1, n + 1, by omega, hnr2, by go_num, rfl, hown2, hgr2⟩ | ((repeat apply Exists.intro); exact ⟨⟨j + 1, n + 1, by omega, hnr2, by go_num, rfl, hown2, hgr2⟩, rfl⟩)
              case measure => simp [intOf]; omega
            · have hje : r = j := by omega
              subst hje
              go_wp2_with fail
              rw [← HQ.out]
              exact ⟨n, by have := hnR.out; simp; omega, rfl, hownR, hgR⟩
set_option maxRecDepth 100000 in
set_option maxHeartbeats 4000000 in
theorem fmtF_low_nonneg (D B z q r : Nat) (f : Nat → UInt8) (w : World) (hr : (3 : Int) - (z : Int) - (q : Int) = (r : Int)) (hmz : max 0 (z : Int) = (z : Int)) (hmz3 : min 3 (z : Int) = (z : Int)) (hmq : max 0 (q : Int) = (q : Int)) (hmq3 : min (3 - (z : Int)) (q : Int) = (q : Int)) (hr3 : max 0 (r : Int) = (r : Int))
    (hown : Own D [] w) (hDB : B ≠ D) (hc : ∀ t, t < q → w.cell? ⟨B, t, none⟩ = some (.int .u8 (f t).toNat)) :
    Calls Tryd.prog 21 #[.slice (some ⟨D, 0, none⟩) 0 24, .bool false, .slice (some ⟨B, 0, none⟩) 24 24, .int .i64 (-(z : Int)), .int .i64 q, .int .i64 3, .int .u8 102, .bool false] w fun e w' =>
      ∃ n, n = List.length ((((([] ++ [48]) ++ [46]) ++ List.replicate z 48) ++ (List.range q).map f) ++ List.replicate r 48) ∧ e = .returned (.slice (some ⟨D, 0, none⟩) n 24) ∧ Own D ((((([] ++ [48]) ++ [46]) ++ List.replicate z 48) ++ (List.range q).map f) ++ List.replicate r 48) w' ∧ w.grownBy w' (some D) := by
  have hdz : decide ((0 : Int) < -(z : Int)) = false := by rw [decide_eq_false_iff_not]; omega
  have hoff : -(z : Int) + (z : Int) = 0 := by omega
  have hz3 : z ≤ 3 := by omega
  have hq3 : q ≤ 3 := by omega
  have HC1 : Hid _ := hc; clear hc
  generalize hQ : (fun (e : Ending) (w' : World) => ∃ n, n = List.length ((((([] ++ [48]) ++ [46]) ++ List.replicate z 48) ++ (List.range q).map f) ++ List.replicate r 48) ∧ e = .returned (.slice (some ⟨D, 0, none⟩) n 24) ∧ Own D ((((([] ++ [48]) ++ [46]) ++ List.replicate z 48) ++ (List.range q).map f) ++ List.replicate r 48) w' ∧ w.grownBy w' (some D)) = Q
  have HQ : Hid _ := hQ; clear hQ
  go_enter Tryd.func21, Tryd.ntmps21
  go_wp2_with (first | (at_builtin; refine app1 w rfl (.tmp 209) (.tmp 210) rfl D 0 [] 48 _ rfl rfl rfl rfl hown (by decide) ?_; intro wb hOB hGB) | (at_builtin; refine app1 wb rfl (.tmp 214) (.tmp 215) rfl D 1 [48] 46 _ rfl rfl rfl rfl hOB (by decide) ?_; intro wc hOL hGC))
  have hGL := grownBy_trans hGB hGC
  have hNL : Hid (2 = 0 + 1 + 1 + 0) := rfl
  clear hOB hGB hGC
  go_loopw [0, 240] (fun v i wr => ∃ j n : Nat, j ≤ z ∧ Hid (n = 0 + 1 + 1 + j) ∧ i = .int .i64 j ∧ v = .slice (some ⟨D, 0, none⟩) n 24 ∧ Own D ((([] ++ [48]) ++ [46]) ++ List.replicate j 48) wr ∧ w.grownBy wr (some D)) (fun _ i _ => z - (intOf i).toNat)
  case atStart => exact ⟨0, _, Nat.zero_le _, hNL, rfl, rfl, by simpa using hOL, hGL⟩
  case round =>
    obtain ⟨j, n, hj, hnR, rfl, rfl, hownR, hgR⟩ := hrel
    clear hOL hGL hNL
    by_cases hlt : j < z
    · have hn24 : n < 24 := by have := hnR.out; omega
      have hlen : Hid (List.length (((([] ++ [48]) ++ [46]) ++ List.replicate j 48) : List UInt8) = n) := by have := hnR.out; show List.length _ = n; simp; omega
      go_wp2_with (first | (at_builtin; refine app1 wr rfl (.tmp 242) (.tmp 243) rfl D n ((([] ++ [48]) ++ [46]) ++ List.replicate j 48) 48 _ rfl hlen.out rfl rfl hownR hn24 ?_; intro w1 hown1 hgrow1))
      go_roundw
      case rel =>
        have hown2 : Own D ((([] ++ [48]) ++ [46]) ++ List.replicate (j + 1) 48) w1 := by rw [rep_succ, ← List.append_assoc]; exact hown1
        have hgr2 := grownBy_trans hgR hgrow1
        have hnr2 : Hid (n + 1 = 0 + 1 + 1 + (j + 1)) := by have := hnR.out; show n + 1 = _; omega
        first | exact ⟨j + 1, n + 1, by omega, hnr2, by go_num, rfl, hown2, hgr2⟩ | ((repeat apply Exists.intro); exact ⟨⟨j + 1, n + 1, by omega, hnr2, by go_num, rfl, hown2, hgr2⟩, rfl⟩)
      case measure => simp [intOf]; omega
    · have hje : z = j := by omega
      subst hje
      go_wp2_with fail
      have hOL := hownR
      have hGL := hgR
      have hNL : Hid (n = 0 + 1 + 1 + z + 0) := hnR
      clear hownR hgR hnR
      go_loopw [0, 247] (fun v i wr => ∃ j n : Nat, j ≤ q ∧ Hid (n = 0 + 1 + 1 + z + j) ∧ i = .int .i64 j ∧ v = .slice (some ⟨D, 0, none⟩) n 24 ∧ Own D (((([] ++ [48]) ++ [46]) ++ List.replicate z 48) ++ (List.range j).map f) wr ∧ w.grownBy wr (some D)) (fun _ i _ => q - (intOf i).toNat)
      case atStart => exact ⟨0, _, Nat.zero_le _, hNL, rfl, rfl, by simpa using hOL, hGL⟩
      case round =>
        obtain ⟨j, n, hj, hnR, rfl, rfl, hownR, hgR⟩ := hrel
        clear hOL hGL hNL
        by_cases hlt : j < q
        · have hn24 : n < 24 := by have := hnR.out; omega
          have hlen : Hid (List.length ((((([] ++ [48]) ++ [46]) ++ List.replicate z 48) ++ (List.range j).map f) : List UInt8) = n) := by have := hnR.out; show List.length _ = n; simp; omega
          have hcj := grow_cell hgR hDB (HC1.out j hlt)
          go_wp2_with (first | (at_builtin; refine app1 wr rfl (.tmp 250) (.tmp 257) rfl D n (((([] ++ [48]) ++ [46]) ++ List.replicate z 48) ++ (List.range j).map f) (f j) _ rfl hlen.out rfl rfl hownR hn24 ?_; intro w1 hown1 hgrow1))
          go_roundw
          case rel =>
            have hown2 : Own D (((([] ++ [48]) ++ [46]) ++ List.replicate z 48) ++ (List.range (j + 1)).map f) w1 := by rw [rng_succ0, ← List.append_assoc]; exact hown1
            have hgr2 := grownBy_trans hgR hgrow1
            have hnr2 : Hid (n + 1 = 0 + 1 + 1 + z + (j + 1)) := by have := hnR.out; show n + 1 = _; omega
            first | exact ⟨j + 1, n + 1, by omega, hnr2, by go_num, rfl, hown2, hgr2⟩ | ((repeat apply Exists.intro); exact ⟨⟨j + 1, n + 1, by omega, hnr2, by go_num, rfl, hown2, hgr2⟩, rfl⟩)
          case measure => simp [intOf]; omega
        · have hje : q = j := by omega
          subst hje
          go_wp2_with fail
          have hOL := hownR
          have hGL := hgR
          have hNL : Hid (n = 0 + 1 + 1 + z + q + 0) := hnR
          clear hownR hgR hnR
          go_loopw [0, 261] (fun v i wr => ∃ j n : Nat, j ≤ r ∧ Hid (n = 0 + 1 + 1 + z + q + j) ∧ i = .int .i64 j ∧ v = .slice (some ⟨D, 0, none⟩) n 24 ∧ Own D ((((([] ++ [48]) ++ [46]) ++ List.replicate z 48) ++ (List.range q).map f) ++ List.replicate j 48) wr ∧ w.grownBy wr (some D)) (fun _ i _ => r - (intOf i).toNat)
          case atStart => exact ⟨0, _, Nat.zero_le _, hNL, rfl, rfl, by simpa using hOL, hGL⟩
          case round =>
            obtain ⟨j, n, hj, hnR, rfl, rfl, hownR, hgR⟩ := hrel
            clear hOL hGL hNL
            by_cases hlt : j < r
            · have hn24 : n < 24 := by have := hnR.out; omega
              have hlen : Hid (List.length (((((([] ++ [48]) ++ [46]) ++ List.replicate z 48) ++ (List.range q).map f) ++ List.replicate j 48) : List UInt8) = n) := by have := hnR.out; show List.length _ = n; simp; omega
              go_wp2_with (first | (at_builtin; refine app1 wr rfl (.tmp 263) (.tmp 264) rfl D n ((((([] ++ [48]) ++ [46]) ++ List.replicate z 48) ++ (List.range q).map f) ++ List.replicate j 48) 48 _ rfl hlen.out rfl rfl hownR hn24 ?_; intro w1 hown1 hgrow1))
              go_roundw
              case rel =>
                have hown2 : Own D ((((([] ++ [48]) ++ [46]) ++ List.replicate z 48) ++ (List.range q).map f) ++ List.replicate (j + 1) 48) w1 := by rw [rep_succ, ← List.append_assoc]; exact hown1
                have hgr2 := grownBy_trans hgR hgrow1
                have hnr2 : Hid (n + 1 = 0 + 1 + 1 + z + q + (j + 1)) := by have := hnR.out; show n + 1 = _; omega
                first | exact ⟨j + 1, n + 1, by omega, hnr2, by go_num, rfl, hown2, hgr2⟩ | ((repeat apply Exists.intro); exact ⟨⟨j + 1, n + 1, by omega, hnr2, by go_num, rfl, hown2, hgr2⟩, rfl⟩)
              case measure => simp [intOf]; omega
            · have hje : r = j := by omega
              subst hje
              go_wp2_with fail
              rw [← HQ.out]
              exact ⟨n, by have := hnR.out; simp; omega, rfl, hownR, hgR⟩
end Go.Proofs.Qxb6614386aDoor
