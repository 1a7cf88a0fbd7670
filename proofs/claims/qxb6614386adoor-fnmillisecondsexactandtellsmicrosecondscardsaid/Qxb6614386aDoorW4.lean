/-
  internal/strconv.fmtEFG at 'f', prec 3, over this dump.
-/
import Derived.Test.Qxb6614386aDoorW3
namespace Go.Proofs.Qxb6614386aDoor
open Go.RowKit Ms Go.Sort
def enc8 (b : UInt8) : Value := .int .u8 (b.toNat : Int)
def Own (D : Nat) (l : List UInt8) (w : World) : Prop := w.ownsRow D 5 1 (.slice (some ⟨D, 0, none⟩) l.length 24) l.length (l.map enc8)
theorem info5 : (Tryd.prog.info? 5).map (fun i => (i.zero, i.size, i.bytes)) = some (some (.int .u8 0), 1, 1) := by kernel_rfl
theorem app1 {ops : Array Oper} {rest : List Oper} {o : Oper} {a : Act} {Q : Exit → Act → World → Prop} (wr : World) (hg : o.guard = none) (s x : Operand)
    (hop : o.op = Op.call { callee := Callee.builtin Builtin.append, args := #[s, x], argTypes := #[32, 32] }) (D n : Nat) (l : List UInt8) (b : UInt8) (z : Int) (hz : z = b.toNat) (hn : l.length = n)
    (hs : a.eval s = .slice (some ⟨D, 0, none⟩) n 24) (hx : a.eval x = .slice (some ⟨wr.heap.size, 0, none⟩) 1 1) (hown : Own D l wr) (hlen : n < 24)
    (hK : ∀ w1, Own D (l ++ [b]) w1 → wr.grownBy w1 (some D) → wpList Tryd.prog ops Q rest (a.put o.dst (.slice (some ⟨D, 0, none⟩) (n + 1) 24)) w1) :
    wpList Tryd.prog ops Q (o :: rest) a (wr.alloc (.cells #[.int .u8 z] 5)) := by
  subst hz
  subst hn
  obtain ⟨i0, hi, hz0, hz1, hz2⟩ := info_parts info5
  refine wpList_append_fits _ hg s x 32 hop D 5 i0 1 Tryd.underlying32 hi hz1 D l.length 24 (l.map enc8) hs (hown.alloc _) ⟨wr.heap.size, 0, none⟩ 1 1 [enc8 b] hx rfl ?_ ?_ (by omega) ?_
  · intro j u hj
    match j, hj with
    | 0, hj =>
      simp at hj
      subst hj
      simp [Addr.add, enc8]
  · intro u hu
    simp at hu
    subst hu
    rfl
  · intro w1 h1 h2
    refine hK w1 ?_ ?_
    · have e : (l ++ [b]).length = l.length + 1 := by simp
      unfold Own
      rw [e, List.map_append]
      exact h1
    · exact ⟨h2.os, h2.tape, h2.output, Nat.le_trans (by simp) h2.size, fun k hk hne => (h2.block k (by simp; omega) hne).trans (by
        show (wr.heap.push _)[k]? = _
        rw [Array.getElem?_push_lt hk, Array.getElem?_eq_getElem hk])⟩
theorem grownBy_trans {a b c : World} {r : Option Nat} (h : a.grownBy b r) (k : b.grownBy c r) : a.grownBy c r :=
  ⟨k.os.trans h.os, k.tape.trans h.tape, k.output.trans h.output, Nat.le_trans h.size k.size, fun i hi hne => (k.block i (Nat.lt_of_lt_of_le hi h.size) hne).trans (h.block i hi hne)⟩
theorem grow_cell {w wr : World} {D B j : Nat} {v : Value} (hg : w.grownBy wr (some D)) (hne : B ≠ D) (h : w.cell? ⟨B, j, none⟩ = some v) : wr.cell? ⟨B, j, none⟩ = some v :=
  hg.cell h (by intro e; exact hne (Option.some.inj e))
theorem rng_succ (f : Nat → UInt8) (o j : Nat) : (List.range (j + 1)).map (fun t => f (o + t)) = (List.range j).map (fun t => f (o + t)) ++ [f (o + j)] := by
  rw [List.range_succ, List.map_append]; rfl
theorem rng_succ0 (f : Nat → UInt8) (j : Nat) : (List.range (j + 1)).map f = (List.range j).map f ++ [f j] := by
  rw [List.range_succ, List.map_append]; rfl
theorem rep_succ (j : Nat) : List.replicate (j + 1) (48 : UInt8) = List.replicate j 48 ++ [48] := by
  rw [List.replicate_succ']
set_option maxRecDepth 100000 in
set_option maxHeartbeats 4000000 in
theorem fmtF_pos_neg (D B d nz m z q r : Nat) (f : Nat → UInt8) (w : World) (hd : (1 : Int) ≤ d) (hd13 : (d : Int) ≤ 15) (hm : min (nz : Int) (d : Int) = (m : Int)) (hz : (d : Int) - (m : Int) = (z : Int)) (hq : max 0 ((nz : Int) - d) = (q : Int)) (hr : (3 : Int) - (q : Int) = (r : Int)) (hq3 : min 3 (q : Int) = (q : Int)) (hr3 : max 0 (r : Int) = (r : Int))
    (hmd : m ≤ 15) (hqd : d + q ≤ 20) (hown : Own D [] w) (hDB : B ≠ D) (hc : ∀ t, t < m → w.cell? ⟨B, t, none⟩ = some (.int .u8 (f t).toNat)) (hc2 : ∀ t, t < q → w.cell? ⟨B, d + t, none⟩ = some (.int .u8 (f (d + t)).toNat)) :
    Calls Tryd.prog 21 #[.slice (some ⟨D, 0, none⟩) 0 24, .bool true, .slice (some ⟨B, 0, none⟩) 24 24, .int .i64 d, .int .i64 nz, .int .i64 3, .int .u8 102, .bool false] w fun e w' =>
      ∃ n, n = List.length ((((([45] ++ (List.range m).map f) ++ List.replicate z 48) ++ [46]) ++ (List.range q).map (fun t => f (d + t))) ++ List.replicate r 48) ∧ e = .returned (.slice (some ⟨D, 0, none⟩) n 24) ∧ Own D ((((([45] ++ (List.range m).map f) ++ List.replicate z 48) ++ [46]) ++ (List.range q).map (fun t => f (d + t))) ++ List.replicate r 48) w' ∧ w.grownBy w' (some D) := by
  have hn0 : max (0 : Int) (-(d : Int)) = 0 := by omega
  have hdp : 0 < d := by omega
  have h30 : min (3 : Int) 0 = 0 := by decide
  have HC1 : Hid _ := hc; clear hc
  have HC2 : Hid _ := hc2; clear hc2
  generalize hQ : (fun (e : Ending) (w' : World) => ∃ n, n = List.length ((((([45] ++ (List.range m).map f) ++ List.replicate z 48) ++ [46]) ++ (List.range q).map (fun t => f (d + t))) ++ List.replicate r 48) ∧ e = .returned (.slice (some ⟨D, 0, none⟩) n 24) ∧ Own D ((((([45] ++ (List.range m).map f) ++ List.replicate z 48) ++ [46]) ++ (List.range q).map (fun t => f (d + t))) ++ List.replicate r 48) w' ∧ w.grownBy w' (some D)) = Q
  have HQ : Hid _ := hQ; clear hQ
  go_enter Tryd.func21, Tryd.ntmps21
  go_wp2_with (first | (at_builtin; refine app1 w rfl (.tmp 179) (.tmp 180) rfl D 0 [] 45 _ rfl rfl rfl rfl hown (by decide) ?_; intro w1 hOL hGL))
  have hNL : Hid (1 = 1 + 0) := rfl
  go_loopw [0, 191] (fun v i wr => ∃ j n : Nat, j ≤ m ∧ Hid (n = 1 + j) ∧ i = .int .i64 j ∧ v = .slice (some ⟨D, 0, none⟩) n 24 ∧ Own D ([45] ++ (List.range j).map f) wr ∧ w.grownBy wr (some D)) (fun _ i _ => m - (intOf i).toNat)
  case atStart => exact ⟨0, _, Nat.zero_le _, hNL, rfl, rfl, by simpa using hOL, hGL⟩
  case round =>
    obtain ⟨j, n, hj, hnR, rfl, rfl, hownR, hgR⟩ := hrel
    clear hOL hGL hNL
    by_cases hlt : j < m
    · have hn24 : n < 24 := by have := hnR.out; omega
      have hlen : Hid (List.length ([45] ++ (List.range j).map f) = n) := by have := hnR.out; show List.length _ = n; simp; omega
      have hcj := grow_cell hgR hDB (HC1.out j hlt)
      go_wp2_with (first | (at_builtin; refine app1 wr rfl (.tmp 195) (.tmp 197) rfl D n _ (f j) _ rfl hlen rfl rfl hownR hn24 ?_; intro w1 hown1 hgrow1))
      go_roundw
      case rel =>
        have hown2 : Own D ([45] ++ (List.range (j + 1)).map f) w1 := by rw [rng_succ0, ← List.append_assoc]; exact hown1
        have hgr2 := grownBy_trans hgR hgrow1
        have hnr2 : Hid (n + 1 = 1 + (j + 1)) := by have := hnR.out; show n + 1 = _; omega
        first | exact ⟨j + 1, n + 1, by omega, hnr2, by go_num, rfl, hown2, hgr2⟩ | ((repeat apply Exists.intro); exact ⟨⟨j + 1, n + 1, by omega, hnr2, by go_num, rfl, hown2, hgr2⟩, rfl⟩)
      case measure => simp [intOf]; omega
    · have hje : m = j := by omega
      subst hje
      go_wp2_with fail
      have hOL := hownR
      have hGL := hgR
      have hNL : Hid (n = 1 + m + 0) := hnR
      clear hownR hgR hnR
      go_loopw [0, 203] (fun v i wr => ∃ j n : Nat, j ≤ z ∧ Hid (n = 1 + m + j) ∧ i = .int .i64 j ∧ v = .slice (some ⟨D, 0, none⟩) n 24 ∧ Own D (([45] ++ (List.range m).map f) ++ List.replicate j 48) wr ∧ w.grownBy wr (some D)) (fun _ i _ => z - (intOf i).toNat)
      case atStart => exact ⟨0, _, Nat.zero_le _, hNL, rfl, rfl, by simpa using hOL, hGL⟩
      case round =>
        obtain ⟨j, n, hj, hnR, rfl, rfl, hownR, hgR⟩ := hrel
        clear hOL hGL hNL
        by_cases hlt : j < z
        · have hn24 : n < 24 := by have := hnR.out; omega
          have hlen : Hid (List.length (([45] ++ (List.range m).map f) ++ List.replicate j 48) = n) := by have := hnR.out; show List.length _ = n; simp; omega
          go_wp2_with (first | (at_builtin; refine app1 wr rfl (.tmp 205) (.tmp 206) rfl D n _ 48 _ rfl hlen rfl rfl hownR hn24 ?_; intro w1 hown1 hgrow1))
          go_roundw
          case rel =>
            have hown2 : Own D (([45] ++ (List.range m).map f) ++ List.replicate (j + 1) 48) w1 := by rw [rep_succ, ← List.append_assoc]; exact hown1
            have hgr2 := grownBy_trans hgR hgrow1
            have hnr2 : Hid (n + 1 = 1 + m + (j + 1)) := by have := hnR.out; show n + 1 = _; omega
            first | exact ⟨j + 1, n + 1, by omega, hnr2, by go_num, rfl, hown2, hgr2⟩ | ((repeat apply Exists.intro); exact ⟨⟨j + 1, n + 1, by omega, hnr2, by go_num, rfl, hown2, hgr2⟩, rfl⟩)
          case measure => simp [intOf]; omega
        · have hje : z = j := by omega
          subst hje
          have hlen : Hid (List.length (([45] ++ (List.range m).map f) ++ List.replicate z 48) = n) := by have := hnR.out; show List.length _ = n; simp; omega
          have hn24 : n < 24 := by have := hnR.out; omega
          go_wp2_with (first | (at_builtin; refine app1 wr rfl (.tmp 214) (.tmp 215) rfl D n _ 46 _ rfl hlen rfl rfl hownR hn24 ?_; intro w1 hOL hGL0))
          refine wp_loop_rounds 1 ?_
          rw [rounds_succ]
          go_wp2_with fail
          have hGL := grownBy_trans hgR hGL0
          have hNL : Hid (n + 1 = 1 + m + z + 1 + 0) := by have := hnR.out; show n + 1 = _; omega
          clear hownR hgR hnR hGL0
          go_loopw [0, 247] (fun v i wr => ∃ j n : Nat, j ≤ q ∧ Hid (n = 1 + m + z + 1 + j) ∧ i = .int .i64 j ∧ v = .slice (some ⟨D, 0, none⟩) n 24 ∧ Own D (((([45] ++ (List.range m).map f) ++ List.replicate z 48) ++ [46]) ++ (List.range j).map (fun t => f (d + t))) wr ∧ w.grownBy wr (some D)) (fun _ i _ => q - (intOf i).toNat)
          case atStart => exact ⟨0, _, Nat.zero_le _, hNL, rfl, rfl, by simpa using hOL, hGL⟩
          case round =>
            obtain ⟨j, n, hj, hnR, rfl, rfl, hownR, hgR⟩ := hrel
            clear hOL hGL hNL
            by_cases hlt : j < q
            · have hn24 : n < 24 := by have := hnR.out; omega
              have hlen : Hid (List.length (((([45] ++ (List.range m).map f) ++ List.replicate z 48) ++ [46]) ++ (List.range j).map (fun t => f (d + t))) = n) := by have := hnR.out; show List.length _ = n; simp; omega
              have hcj := grow_cell hgR hDB (HC2.out j hlt)
              go_wp2_with (first | (at_builtin; refine app1 wr rfl (.tmp 250) (.tmp 257) rfl D n _ (f (d + j)) _ rfl hlen rfl rfl hownR hn24 ?_; intro w1 hown1 hgrow1))
              go_roundw
              case rel =>
                have hown2 : Own D (((([45] ++ (List.range m).map f) ++ List.replicate z 48) ++ [46]) ++ (List.range (j + 1)).map (fun t => f (d + t))) w1 := by rw [rng_succ, ← List.append_assoc]; exact hown1
                have hgr2 := grownBy_trans hgR hgrow1
                have hnr2 : Hid (n + 1 = 1 + m + z + 1 + (j + 1)) := by have := hnR.out; show n + 1 = _; omega
                first | exact ⟨j + 1, n + 1, by omega, hnr2, by go_num, rfl, hown2, hgr2⟩ | ((repeat apply Exists.intro); exact ⟨⟨j + 1, n + 1, by omega, hnr2, by go_num, rfl, hown2, hgr2⟩, rfl⟩)
              case measure => simp [intOf]; omega
            · have hje : q = j := by omega
              subst hje
              go_wp2_with fail
              have hOL := hownR
              have hGL := hgR
              have hNL : Hid (n = 1 + m + z + 1 + q + 0) := hnR
              clear hownR hgR hnR
              go_loopw [0, 261] (fun v i wr => ∃ j n : Nat, j ≤ r ∧ Hid (n = 1 + m + z + 1 + q + j) ∧ i = .int .i64 j ∧ v = .slice (some ⟨D, 0, none⟩) n 24 ∧ Own D ((((([45] ++ (List.range m).map f) ++ List.replicate z 48) ++ [46]) ++ (List.range q).map (fun t => f (d + t))) ++ List.replicate j 48) wr ∧ w.grownBy wr (some D)) (fun _ i _ => r - (intOf i).toNat)
              case atStart => exact ⟨0, _, Nat.zero_le _, hNL, rfl, rfl, by simpa using hOL, hGL⟩
              case round =>
                obtain ⟨j, n, hj, hnR, rfl, rfl, hownR, hgR⟩ := hrel
                clear hOL hGL hNL
                by_cases hlt : j < r
                · have hn24 : n < 24 := by have := hnR.out; omega
                  have hlen : Hid (List.length ((((([45] ++ (List.range m).map f) ++ List.replicate z 48) ++ [46]) ++ (List.range q).map (fun t => f (d + t))) ++ List.replicate j 48) = n) := by have := hnR.out; show List.length _ = n; simp; omega
                  go_wp2_with (first | (at_builtin; refine app1 wr rfl (.tmp 263) (.tmp 264) rfl D n _ 48 _ rfl hlen rfl rfl hownR hn24 ?_; intro w1 hown1 hgrow1))
                  go_roundw
                  case rel =>
                    have hown2 : Own D ((((([45] ++ (List.range m).map f) ++ List.replicate z 48) ++ [46]) ++ (List.range q).map (fun t => f (d + t))) ++ List.replicate (j + 1) 48) w1 := by rw [rep_succ, ← List.append_assoc]; exact hown1
                    have hgr2 := grownBy_trans hgR hgrow1
                    have hnr2 : Hid (n + 1 = 1 + m + z + 1 + q + (j + 1)) := by have := hnR.out; show n + 1 = _; omega
                    first | exact ⟨j + 1, n + 1, by omega, hnr2, by go_num, rfl, hown2, hgr2⟩ | ((repeat apply Exists.intro); exact ⟨⟨j + 1, n + 1, by omega, hnr2, by go_num, rfl, hown2, hgr2⟩, rfl⟩)
                  case measure => simp [intOf]; omega
                · have hje : r = j := by omega
                  subst hje
                  go_wp2_with fail
                  rw [← HQ.out]
                  exact ⟨n, by have := hnR.out; simp; omega, rfl, hownR, hgR⟩
set_option maxRecDepth 100000 in
set_option maxHeartbeats 4000000 in
theorem fmtF_pos_nonneg (D B d nz m z q r : Nat) (f : Nat → UInt8) (w : World) (hd : (1 : Int) ≤ d) (hd13 : (d : Int) ≤ 15) (hm : min (nz : Int) (d : Int) = (m : Int)) (hz : (d : Int) - (m : Int) = (z : Int)) (hq : max 0 ((nz : Int) - d) = (q : Int)) (hr : (3 : Int) - (q : Int) = (r : Int)) (hq3 : min 3 (q : Int) = (q : Int)) (hr3 : max 0 (r : Int) = (r : Int))
    (hmd : m ≤ 15) (hqd : d + q ≤ 20) (hown : Own D [] w) (hDB : B ≠ D) (hc : ∀ t, t < m → w.cell? ⟨B, t, none⟩ = some (.int .u8 (f t).toNat)) (hc2 : ∀ t, t < q → w.cell? ⟨B, d + t, none⟩ = some (.int .u8 (f (d + t)).toNat)) :
    Calls Tryd.prog 21 #[.slice (some ⟨D, 0, none⟩) 0 24, .bool false, .slice (some ⟨B, 0, none⟩) 24 24, .int .i64 d, .int .i64 nz, .int .i64 3, .int .u8 102, .bool false] w fun e w' =>
      ∃ n, n = List.length ((((([] ++ (List.range m).map f) ++ List.replicate z 48) ++ [46]) ++ (List.range q).map (fun t => f (d + t))) ++ List.replicate r 48) ∧ e = .returned (.slice (some ⟨D, 0, none⟩) n 24) ∧ Own D ((((([] ++ (List.range m).map f) ++ List.replicate z 48) ++ [46]) ++ (List.range q).map (fun t => f (d + t))) ++ List.replicate r 48) w' ∧ w.grownBy w' (some D) := by
  have hn0 : max (0 : Int) (-(d : Int)) = 0 := by omega
  have hdp : 0 < d := by omega
  have h30 : min (3 : Int) 0 = 0 := by decide
  have HC1 : Hid _ := hc; clear hc
  have HC2 : Hid _ := hc2; clear hc2
  generalize hQ : (fun (e : Ending) (w' : World) => ∃ n, n = List.length ((((([] ++ (List.range m).map f) ++ List.replicate z 48) ++ [46]) ++ (List.range q).map (fun t => f (d + t))) ++ List.replicate r 48) ∧ e = .returned (.slice (some ⟨D, 0, none⟩) n 24) ∧ Own D ((((([] ++ (List.range m).map f) ++ List.replicate z 48) ++ [46]) ++ (List.range q).map (fun t => f (d + t))) ++ List.replicate r 48) w' ∧ w.grownBy w' (some D)) = Q
  have HQ : Hid _ := hQ; clear hQ
  go_enter Tryd.func21, Tryd.ntmps21
  go_wp2_with fail
  have hOL := hown
  have hGL := World.grownBy.refl w (some D)
  have hNL : Hid (0 = 0 + 0) := rfl
  go_loopw [0, 191] (fun v i wr => ∃ j n : Nat, j ≤ m ∧ Hid (n = 0 + j) ∧ i = .int .i64 j ∧ v = .slice (some ⟨D, 0, none⟩) n 24 ∧ Own D ([] ++ (List.range j).map f) wr ∧ w.grownBy wr (some D)) (fun _ i _ => m - (intOf i).toNat)
  case atStart => exact ⟨0, _, Nat.zero_le _, hNL, rfl, rfl, by simpa using hOL, hGL⟩
  case round =>
    obtain ⟨j, n, hj, hnR, rfl, rfl, hownR, hgR⟩ := hrel
    clear hOL hGL hNL
    by_cases hlt : j < m
    · have hn24 : n < 24 := by have := hnR.out; omega
      have hlen : Hid (List.length ([] ++ (List.range j).map f) = n) := by have := hnR.out; show List.length _ = n; simp; omega
      have hcj := grow_cell hgR hDB (HC1.out j hlt)
      go_wp2_with (first | (at_builtin; refine app1 wr rfl (.tmp 195) (.tmp 197) rfl D n _ (f j) _ rfl hlen rfl rfl hownR hn24 ?_; intro w1 hown1 hgrow1))
      go_roundw
      case rel =>
        have hown2 : Own D ([] ++ (List.range (j + 1)).map f) w1 := by rw [rng_succ0, ← List.append_assoc]; exact hown1
        have hgr2 := grownBy_trans hgR hgrow1
        have hnr2 : Hid (n + 1 = 0 + (j + 1)) := by have := hnR.out; show n + 1 = _; omega
        first | exact ⟨j + 1, n + 1, by omega, hnr2, by go_num, rfl, hown2, hgr2⟩ | ((repeat apply Exists.intro); exact ⟨⟨j + 1, n + 1, by omega, hnr2, by go_num, rfl, hown2, hgr2⟩, rfl⟩)
      case measure => simp [intOf]; omega
    · have hje : m = j := by omega
      subst hje
      go_wp2_with fail
      have hOL := hownR
      have hGL := hgR
      have hNL : Hid (n = 0 + m + 0) := hnR
      clear hownR hgR hnR
      go_loopw [0, 203] (fun v i wr => ∃ j n : Nat, j ≤ z ∧ Hid (n = 0 + m + j) ∧ i = .int .i64 j ∧ v = .slice (some ⟨D, 0, none⟩) n 24 ∧ Own D (([] ++ (List.range m).map f) ++ List.replicate j 48) wr ∧ w.grownBy wr (some D)) (fun _ i _ => z - (intOf i).toNat)
      case atStart => exact ⟨0, _, Nat.zero_le _, hNL, rfl, rfl, by simpa using hOL, hGL⟩
      case round =>
        obtain ⟨j, n, hj, hnR, rfl, rfl, hownR, hgR⟩ := hrel
        clear hOL hGL hNL
        by_cases hlt : j < z
        · have hn24 : n < 24 := by have := hnR.out; omega
          have hlen : Hid (List.length (([] ++ (List.range m).map f) ++ List.replicate j 48) = n) := by have := hnR.out; show List.length _ = n; simp; omega
          go_wp2_with (first | (at_builtin; refine app1 wr rfl (.tmp 205) (.tmp 206) rfl D n _ 48 _ rfl hlen rfl rfl hownR hn24 ?_; intro w1 hown1 hgrow1))
          go_roundw
          case rel =>
            have hown2 : Own D (([] ++ (List.range m).map f) ++ List.replicate (j + 1) 48) w1 := by rw [rep_succ, ← List.append_assoc]; exact hown1
            have hgr2 := grownBy_trans hgR hgrow1
            have hnr2 : Hid (n + 1 = 0 + m + (j + 1)) := by have := hnR.out; show n + 1 = _; omega
            first | exact ⟨j + 1, n + 1, by omega, hnr2, by go_num, rfl, hown2, hgr2⟩ | ((repeat apply Exists.intro); exact ⟨⟨j + 1, n + 1, by omega, hnr2, by go_num, rfl, hown2, hgr2⟩, rfl⟩)
          case measure => simp [intOf]; omega
        · have hje : z = j := by omega
          subst hje
          have hlen : Hid (List.length (([] ++ (List.range m).map f) ++ List.replicate z 48) = n) := by have := hnR.out; show List.length _ = n; simp; omega
          have hn24 : n < 24 := by have := hnR.out; omega
          go_wp2_with (first | (at_builtin; refine app1 wr rfl (.tmp 214) (.tmp 215) rfl D n _ 46 _ rfl hlen rfl rfl hownR hn24 ?_; intro w1 hOL hGL0))
          refine wp_loop_rounds 1 ?_
          rw [rounds_succ]
          go_wp2_with fail
          have hGL := grownBy_trans hgR hGL0
          have hNL : Hid (n + 1 = 0 + m + z + 1 + 0) := by have := hnR.out; show n + 1 = _; omega
          clear hownR hgR hnR hGL0
          go_loopw [0, 247] (fun v i wr => ∃ j n : Nat, j ≤ q ∧ Hid (n = 0 + m + z + 1 + j) ∧ i = .int .i64 j ∧ v = .slice (some ⟨D, 0, none⟩) n 24 ∧ Own D (((([] ++ (List.range m).map f) ++ List.replicate z 48) ++ [46]) ++ (List.range j).map (fun t => f (d + t))) wr ∧ w.grownBy wr (some D)) (fun _ i _ => q - (intOf i).toNat)
          case atStart => exact ⟨0, _, Nat.zero_le _, hNL, rfl, rfl, by simpa using hOL, hGL⟩
          case round =>
            obtain ⟨j, n, hj, hnR, rfl, rfl, hownR, hgR⟩ := hrel
            clear hOL hGL hNL
            by_cases hlt : j < q
            · have hn24 : n < 24 := by have := hnR.out; omega
              have hlen : Hid (List.length (((([] ++ (List.range m).map f) ++ List.replicate z 48) ++ [46]) ++ (List.range j).map (fun t => f (d + t))) = n) := by have := hnR.out; show List.length _ = n; simp; omega
              have hcj := grow_cell hgR hDB (HC2.out j hlt)
              go_wp2_with (first | (at_builtin; refine app1 wr rfl (.tmp 250) (.tmp 257) rfl D n _ (f (d + j)) _ rfl hlen rfl rfl hownR hn24 ?_; intro w1 hown1 hgrow1))
              go_roundw
              case rel =>
                have hown2 : Own D (((([] ++ (List.range m).map f) ++ List.replicate z 48) ++ [46]) ++ (List.range (j + 1)).map (fun t => f (d + t))) w1 := by rw [rng_succ, ← List.append_assoc]; exact hown1
                have hgr2 := grownBy_trans hgR hgrow1
                have hnr2 : Hid (n + 1 = 0 + m + z + 1 + (j + 1)) := by have := hnR.out; show n + 1 = _; omega
                first | exact ⟨j + 1, n + 1, by omega, hnr2, by go_num, rfl, hown2, hgr2⟩ | ((repeat apply Exists.intro); exact ⟨⟨j + 1, n + 1, by omega, hnr2, by go_num, rfl, hown2, hgr2⟩, rfl⟩)
              case measure => simp [intOf]; omega
            · have hje : q = j := by omega
              subst hje
              go_wp2_with fail
              have hOL := hownR
              have hGL := hgR
              have hNL : Hid (n = 0 + m + z + 1 + q + 0) := hnR
              clear hownR hgR hnR
              go_loopw [0, 261] (fun v i wr => ∃ j n : Nat, j ≤ r ∧ Hid (n = 0 + m + z + 1 + q + j) ∧ i = .int .i64 j ∧ v = .slice (some ⟨D, 0, none⟩) n 24 ∧ Own D ((((([] ++ (List.range m).map f) ++ List.replicate z 48) ++ [46]) ++ (List.range q).map (fun t => f (d + t))) ++ List.replicate j 48) wr ∧ w.grownBy wr (some D)) (fun _ i _ => r - (intOf i).toNat)
              case atStart => exact ⟨0, _, Nat.zero_le _, hNL, rfl, rfl, by simpa using hOL, hGL⟩
              case round =>
                obtain ⟨j, n, hj, hnR, rfl, rfl, hownR, hgR⟩ := hrel
                clear hOL hGL hNL
                by_cases hlt : j < r
                · have hn24 : n < 24 := by have := hnR.out; omega
                  have hlen : Hid (List.length ((((([] ++ (List.range m).map f) ++ List.replicate z 48) ++ [46]) ++ (List.range q).map (fun t => f (d + t))) ++ List.replicate j 48) = n) := by have := hnR.out; show List.length _ = n; simp; omega
                  go_wp2_with (first | (at_builtin; refine app1 wr rfl (.tmp 263) (.tmp 264) rfl D n _ 48 _ rfl hlen rfl rfl hownR hn24 ?_; intro w1 hown1 hgrow1))
                  go_roundw
                  case rel =>
                    have hown2 : Own D ((((([] ++ (List.range m).map f) ++ List.replicate z 48) ++ [46]) ++ (List.range q).map (fun t => f (d + t))) ++ List.replicate (j + 1) 48) w1 := by rw [rep_succ, ← List.append_assoc]; exact hown1
                    have hgr2 := grownBy_trans hgR hgrow1
                    have hnr2 : Hid (n + 1 = 0 + m + z + 1 + q + (j + 1)) := by have := hnR.out; show n + 1 = _; omega
                    first | exact ⟨j + 1, n + 1, by omega, hnr2, by go_num, rfl, hown2, hgr2⟩ | ((repeat apply Exists.intro); exact ⟨⟨j + 1, n + 1, by omega, hnr2, by go_num, rfl, hown2, hgr2⟩, rfl⟩)
                  case measure => simp [intOf]; omega
                · have hje : r = j := by omega
                  subst hje
                  go_wp2_with fail
                  rw [← HQ.out]
                  exact ⟨n, by have := hnR.out; simp; omega, rfl, hownR, hgR⟩
end Go.Proofs.Qxb6614386aDoor
