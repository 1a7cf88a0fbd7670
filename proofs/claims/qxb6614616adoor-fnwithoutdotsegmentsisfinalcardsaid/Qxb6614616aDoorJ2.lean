/-
  iriB1Join, walked.
-/
import Derived.Test.Qxb6614616aDoorJ1
namespace Go.Proofs.Qxb6614616aDoor
open Go.RowKit
set_option linter.unusedSimpArgs false
set_option maxRecDepth 100000 in
set_option maxHeartbeats 4000000 in
theorem join_0000 (sc au pa qu fr : ByteArray) (w : World) (hs : (sc.size : Int) + au.size + pa.size + qu.size + fr.size ≤ 2097152) :
    Calls Tryd.prog 6 #[.string sc, .string au, .string pa, .string qu, .string fr, .bool false, .bool false, .bool false, .bool false] w fun e w' => e = .returned (.string (ofL (joinL (L sc) (L au) (L pa) (L qu) (L fr) false false false false))) ∧ Below w.heap.size w w' := by
  generalize hQ : (fun (e : Ending) (w' : World) => e = .returned (.string (ofL (joinL (L sc) (L au) (L pa) (L qu) (L fr) false false false false))) ∧ Below w.heap.size w w') = Q
  have HQ := hide hQ
  obtain ⟨C, hC⟩ : ∃ C : Nat, C = sc.size + au.size + pa.size + qu.size + fr.size + 5 := ⟨_, rfl⟩
  have hCI : (sc.size : Int) + au.size + pa.size + qu.size + fr.size + 5 = C := by omega
  obtain ⟨Z, hZ, hmk⟩ := run_make 0 C (Nat.zero_le _) (by omega) w
  have hO : OwnB w.heap.size C 0 [] (w.alloc (.cells Z 5)) := ⟨rfl, World.ownsRow_made w _ C (Nat.le_refl _) (by simp [maxLen]; omega) (by rw [hZ, Nat.mul_one])⟩
  have HO := hide hO
  have HB : Hid (Below w.heap.size w (w.alloc (.cells Z 5))) := hide ((Below.refl _ _).alloc (Nat.le_refl _) _)
  rw [← hCI] at hmk
  have hmk : (Instr.makeSlice 28 (.int .i64 0) (.int .i64 ((sc.size : Int) + au.size + pa.size + qu.size + fr.size + 5))).run Tryd.prog w = .ok (.slice (some ⟨w.heap.size, 0, none⟩) 0 C) (w.alloc (.cells Z 5)) := hmk
  have hC1 : sc.size + au.size + pa.size + qu.size + fr.size + 5 ≤ C := by omega
  clear hQ hO hZ hCI hC
  go_enter Tryd.func6, Tryd.ntmps6
  go_wp2_with (first
    | (at_builtin; refine appS (w.alloc (.cells Z 5)) rfl (.tmp 50) (.tmp 51) rfl w.heap.size C 0 _ pa rfl rfl HO.out (by omega) (by have hn := HO.out.len; simp only [List.length_append, List.length_cons, List.length_nil, L_len] at hn; omega) ?_; intro w1 n1 ho1 hg1; have hcv := own_convert ho1; have HO1 := hide ho1; have HB1 := hide (HB.out.trans (below_grown hg1 HB.out.size)); clear ho1 hg1))
  rw [← HQ.out]
  refine ⟨?_, HB1.out⟩
  show Ending.returned (.string _) = .returned (.string _)
  congr 3
  simp [joinL]
set_option maxRecDepth 100000 in
set_option maxHeartbeats 4000000 in
theorem join_0001 (sc au pa qu fr : ByteArray) (w : World) (hs : (sc.size : Int) + au.size + pa.size + qu.size + fr.size ≤ 2097152) :
    Calls Tryd.prog 6 #[.string sc, .string au, .string pa, .string qu, .string fr, .bool false, .bool false, .bool false, .bool true] w fun e w' => e = .returned (.string (ofL (joinL (L sc) (L au) (L pa) (L qu) (L fr) false false false true))) ∧ Below w.heap.size w w' := by
  generalize hQ : (fun (e : Ending) (w' : World) => e = .returned (.string (ofL (joinL (L sc) (L au) (L pa) (L qu) (L fr) false false false true))) ∧ Below w.heap.size w w') = Q
  have HQ := hide hQ
  obtain ⟨C, hC⟩ : ∃ C : Nat, C = sc.size + au.size + pa.size + qu.size + fr.size + 5 := ⟨_, rfl⟩
  have hCI : (sc.size : Int) + au.size + pa.size + qu.size + fr.size + 5 = C := by omega
  obtain ⟨Z, hZ, hmk⟩ := run_make 0 C (Nat.zero_le _) (by omega) w
  have hO : OwnB w.heap.size C 0 [] (w.alloc (.cells Z 5)) := ⟨rfl, World.ownsRow_made w _ C (Nat.le_refl _) (by simp [maxLen]; omega) (by rw [hZ, Nat.mul_one])⟩
  have HO := hide hO
  have HB : Hid (Below w.heap.size w (w.alloc (.cells Z 5))) := hide ((Below.refl _ _).alloc (Nat.le_refl _) _)
  rw [← hCI] at hmk
  have hmk : (Instr.makeSlice 28 (.int .i64 0) (.int .i64 ((sc.size : Int) + au.size + pa.size + qu.size + fr.size + 5))).run Tryd.prog w = .ok (.slice (some ⟨w.heap.size, 0, none⟩) 0 C) (w.alloc (.cells Z 5)) := hmk
  have hC1 : sc.size + au.size + pa.size + qu.size + fr.size + 5 ≤ C := by omega
  clear hQ hO hZ hCI hC
  go_enter Tryd.func6, Tryd.ntmps6
  go_wp2_with (first
    | (at_builtin; refine appS (w.alloc (.cells Z 5)) rfl (.tmp 50) (.tmp 51) rfl w.heap.size C 0 _ pa rfl rfl HO.out (by omega) (by have hn := HO.out.len; simp only [List.length_append, List.length_cons, List.length_nil, L_len] at hn; omega) ?_; intro w1 n1 ho1 hg1; have HO1 := hide ho1; have HB1 := hide (HB.out.trans (below_grown hg1 HB.out.size)); clear ho1 hg1)
    | (at_builtin; refine app1 w1 rfl (.tmp 61) (.tmp 62) rfl w.heap.size C n1 _ [35] 1 #[.int .u8 35] rfl rfl rfl (by first | rfl | (rw [World.size_alloc]; rfl)) HO1.out (by have hn := HO1.out.len; simp only [List.length_append, List.length_cons, List.length_nil, L_len] at hn; omega) ?_; intro w2 n2 ho2 hg2; have HO2 := hide ho2; have HB2 := hide (HB1.out.trans (below_grown hg2 HB1.out.size)); clear ho2 hg2)
    | (at_builtin; refine appS w2 rfl (.tmp 64) (.tmp 65) rfl w.heap.size C n2 _ fr rfl rfl HO2.out (by omega) (by have hn := HO2.out.len; simp only [List.length_append, List.length_cons, List.length_nil, L_len] at hn; omega) ?_; intro w3 n3 ho3 hg3; have hcv := own_convert ho3; have HO3 := hide ho3; have HB3 := hide (HB2.out.trans (below_grown hg3 HB2.out.size)); clear ho3 hg3))
  rw [← HQ.out]
  refine ⟨?_, HB3.out⟩
  show Ending.returned (.string _) = .returned (.string _)
  congr 3
  simp [joinL]
set_option maxRecDepth 100000 in
set_option maxHeartbeats 4000000 in
theorem join_0010 (sc au pa qu fr : ByteArray) (w : World) (hs : (sc.size : Int) + au.size + pa.size + qu.size + fr.size ≤ 2097152) :
    Calls Tryd.prog 6 #[.string sc, .string au, .string pa, .string qu, .string fr, .bool false, .bool false, .bool true, .bool false] w fun e w' => e = .returned (.string (ofL (joinL (L sc) (L au) (L pa) (L qu) (L fr) false false true false))) ∧ Below w.heap.size w w' := by
  generalize hQ : (fun (e : Ending) (w' : World) => e = .returned (.string (ofL (joinL (L sc) (L au) (L pa) (L qu) (L fr) false false true false))) ∧ Below w.heap.size w w') = Q
  have HQ := hide hQ
  obtain ⟨C, hC⟩ : ∃ C : Nat, C = sc.size + au.size + pa.size + qu.size + fr.size + 5 := ⟨_, rfl⟩
  have hCI : (sc.size : Int) + au.size + pa.size + qu.size + fr.size + 5 = C := by omega
  obtain ⟨Z, hZ, hmk⟩ := run_make 0 C (Nat.zero_le _) (by omega) w
  have hO : OwnB w.heap.size C 0 [] (w.alloc (.cells Z 5)) := ⟨rfl, World.ownsRow_made w _ C (Nat.le_refl _) (by simp [maxLen]; omega) (by rw [hZ, Nat.mul_one])⟩
  have HO := hide hO
  have HB : Hid (Below w.heap.size w (w.alloc (.cells Z 5))) := hide ((Below.refl _ _).alloc (Nat.le_refl _) _)
  rw [← hCI] at hmk
  have hmk : (Instr.makeSlice 28 (.int .i64 0) (.int .i64 ((sc.size : Int) + au.size + pa.size + qu.size + fr.size + 5))).run Tryd.prog w = .ok (.slice (some ⟨w.heap.size, 0, none⟩) 0 C) (w.alloc (.cells Z 5)) := hmk
  have hC1 : sc.size + au.size + pa.size + qu.size + fr.size + 5 ≤ C := by omega
  clear hQ hO hZ hCI hC
  go_enter Tryd.func6, Tryd.ntmps6
  go_wp2_with (first
    | (at_builtin; refine appS (w.alloc (.cells Z 5)) rfl (.tmp 50) (.tmp 51) rfl w.heap.size C 0 _ pa rfl rfl HO.out (by omega) (by have hn := HO.out.len; simp only [List.length_append, List.length_cons, List.length_nil, L_len] at hn; omega) ?_; intro w1 n1 ho1 hg1; have HO1 := hide ho1; have HB1 := hide (HB.out.trans (below_grown hg1 HB.out.size)); clear ho1 hg1)
    | (at_builtin; refine app1 w1 rfl (.tmp 54) (.tmp 55) rfl w.heap.size C n1 _ [63] 1 #[.int .u8 63] rfl rfl rfl (by first | rfl | (rw [World.size_alloc]; rfl)) HO1.out (by have hn := HO1.out.len; simp only [List.length_append, List.length_cons, List.length_nil, L_len] at hn; omega) ?_; intro w2 n2 ho2 hg2; have HO2 := hide ho2; have HB2 := hide (HB1.out.trans (below_grown hg2 HB1.out.size)); clear ho2 hg2)
    | (at_builtin; refine appS w2 rfl (.tmp 57) (.tmp 58) rfl w.heap.size C n2 _ qu rfl rfl HO2.out (by omega) (by have hn := HO2.out.len; simp only [List.length_append, List.length_cons, List.length_nil, L_len] at hn; omega) ?_; intro w3 n3 ho3 hg3; have hcv := own_convert ho3; have HO3 := hide ho3; have HB3 := hide (HB2.out.trans (below_grown hg3 HB2.out.size)); clear ho3 hg3))
  rw [← HQ.out]
  refine ⟨?_, HB3.out⟩
  show Ending.returned (.string _) = .returned (.string _)
  congr 3
  simp [joinL]
set_option maxRecDepth 100000 in
set_option maxHeartbeats 4000000 in
theorem join_0011 (sc au pa qu fr : ByteArray) (w : World) (hs : (sc.size : Int) + au.size + pa.size + qu.size + fr.size ≤ 2097152) :
    Calls Tryd.prog 6 #[.string sc, .string au, .string pa, .string qu, .string fr, .bool false, .bool false, .bool true, .bool true] w fun e w' => e = .returned (.string (ofL (joinL (L sc) (L au) (L pa) (L qu) (L fr) false false true true))) ∧ Below w.heap.size w w' := by
  generalize hQ : (fun (e : Ending) (w' : World) => e = .returned (.string (ofL (joinL (L sc) (L au) (L pa) (L qu) (L fr) false false true true))) ∧ Below w.heap.size w w') = Q
  have HQ := hide hQ
  obtain ⟨C, hC⟩ : ∃ C : Nat, C = sc.size + au.size + pa.size + qu.size + fr.size + 5 := ⟨_, rfl⟩
  have hCI : (sc.size : Int) + au.size + pa.size + qu.size + fr.size + 5 = C := by omega
  obtain ⟨Z, hZ, hmk⟩ := run_make 0 C (Nat.zero_le _) (by omega) w
  have hO : OwnB w.heap.size C 0 [] (w.alloc (.cells Z 5)) := ⟨rfl, World.ownsRow_made w _ C (Nat.le_refl _) (by simp [maxLen]; omega) (by rw [hZ, Nat.mul_one])⟩
  have HO := hide hO
  have HB : Hid (Below w.heap.size w (w.alloc (.cells Z 5))) := hide ((Below.refl _ _).alloc (Nat.le_refl _) _)
  rw [← hCI] at hmk
  have hmk : (Instr.makeSlice 28 (.int .i64 0) (.int .i64 ((sc.size : Int) + au.size + pa.size + qu.size + fr.size + 5))).run Tryd.prog w = .ok (.slice (some ⟨w.heap.size, 0, none⟩) 0 C) (w.alloc (.cells Z 5)) := hmk
  have hC1 : sc.size + au.size + pa.size + qu.size + fr.size + 5 ≤ C := by omega
  clear hQ hO hZ hCI hC
  go_enter Tryd.func6, Tryd.ntmps6
  go_wp2_with (first
    | (at_builtin; refine appS (w.alloc (.cells Z 5)) rfl (.tmp 50) (.tmp 51) rfl w.heap.size C 0 _ pa rfl rfl HO.out (by omega) (by have hn := HO.out.len; simp only [List.length_append, List.length_cons, List.length_nil, L_len] at hn; omega) ?_; intro w1 n1 ho1 hg1; have HO1 := hide ho1; have HB1 := hide (HB.out.trans (below_grown hg1 HB.out.size)); clear ho1 hg1)
    | (at_builtin; refine app1 w1 rfl (.tmp 54) (.tmp 55) rfl w.heap.size C n1 _ [63] 1 #[.int .u8 63] rfl rfl rfl (by first | rfl | (rw [World.size_alloc]; rfl)) HO1.out (by have hn := HO1.out.len; simp only [List.length_append, List.length_cons, List.length_nil, L_len] at hn; omega) ?_; intro w2 n2 ho2 hg2; have HO2 := hide ho2; have HB2 := hide (HB1.out.trans (below_grown hg2 HB1.out.size)); clear ho2 hg2)
    | (at_builtin; refine appS w2 rfl (.tmp 57) (.tmp 58) rfl w.heap.size C n2 _ qu rfl rfl HO2.out (by omega) (by have hn := HO2.out.len; simp only [List.length_append, List.length_cons, List.length_nil, L_len] at hn; omega) ?_; intro w3 n3 ho3 hg3; have HO3 := hide ho3; have HB3 := hide (HB2.out.trans (below_grown hg3 HB2.out.size)); clear ho3 hg3)
    | (at_builtin; refine app1 w3 rfl (.tmp 61) (.tmp 62) rfl w.heap.size C n3 _ [35] 1 #[.int .u8 35] rfl rfl rfl (by first | rfl | (rw [World.size_alloc]; rfl)) HO3.out (by have hn := HO3.out.len; simp only [List.length_append, List.length_cons, List.length_nil, L_len] at hn; omega) ?_; intro w4 n4 ho4 hg4; have HO4 := hide ho4; have HB4 := hide (HB3.out.trans (below_grown hg4 HB3.out.size)); clear ho4 hg4)
    | (at_builtin; refine appS w4 rfl (.tmp 64) (.tmp 65) rfl w.heap.size C n4 _ fr rfl rfl HO4.out (by omega) (by have hn := HO4.out.len; simp only [List.length_append, List.length_cons, List.length_nil, L_len] at hn; omega) ?_; intro w5 n5 ho5 hg5; have hcv := own_convert ho5; have HO5 := hide ho5; have HB5 := hide (HB4.out.trans (below_grown hg5 HB4.out.size)); clear ho5 hg5))
  rw [← HQ.out]
  refine ⟨?_, HB5.out⟩
  show Ending.returned (.string _) = .returned (.string _)
  congr 3
  simp [joinL]
set_option maxRecDepth 100000 in
set_option maxHeartbeats 4000000 in
theorem join_0100 (sc au pa qu fr : ByteArray) (w : World) (hs : (sc.size : Int) + au.size + pa.size + qu.size + fr.size ≤ 2097152) :
    Calls Tryd.prog 6 #[.string sc, .string au, .string pa, .string qu, .string fr, .bool false, .bool true, .bool false, .bool false] w fun e w' => e = .returned (.string (ofL (joinL (L sc) (L au) (L pa) (L qu) (L fr) false true false false))) ∧ Below w.heap.size w w' := by
  generalize hQ : (fun (e : Ending) (w' : World) => e = .returned (.string (ofL (joinL (L sc) (L au) (L pa) (L qu) (L fr) false true false false))) ∧ Below w.heap.size w w') = Q
  have HQ := hide hQ
  obtain ⟨C, hC⟩ : ∃ C : Nat, C = sc.size + au.size + pa.size + qu.size + fr.size + 5 := ⟨_, rfl⟩
  have hCI : (sc.size : Int) + au.size + pa.size + qu.size + fr.size + 5 = C := by omega
  obtain ⟨Z, hZ, hmk⟩ := run_make 0 C (Nat.zero_le _) (by omega) w
  have hO : OwnB w.heap.size C 0 [] (w.alloc (.cells Z 5)) := ⟨rfl, World.ownsRow_made w _ C (Nat.le_refl _) (by simp [maxLen]; omega) (by rw [hZ, Nat.mul_one])⟩
  have HO := hide hO
  have HB : Hid (Below w.heap.size w (w.alloc (.cells Z 5))) := hide ((Below.refl _ _).alloc (Nat.le_refl _) _)
  rw [← hCI] at hmk
  have hmk : (Instr.makeSlice 28 (.int .i64 0) (.int .i64 ((sc.size : Int) + au.size + pa.size + qu.size + fr.size + 5))).run Tryd.prog w = .ok (.slice (some ⟨w.heap.size, 0, none⟩) 0 C) (w.alloc (.cells Z 5)) := hmk
  have hC1 : sc.size + au.size + pa.size + qu.size + fr.size + 5 ≤ C := by omega
  clear hQ hO hZ hCI hC
  go_enter Tryd.func6, Tryd.ntmps6
  go_wp2_with (first
    | (at_builtin; refine app1 (w.alloc (.cells Z 5)) rfl (.tmp 44) (.tmp 45) rfl w.heap.size C 0 _ [47, 47] 2 #[.int .u8 47, .int .u8 47] rfl rfl rfl (by first | rfl | (rw [World.size_alloc]; rfl)) HO.out (by have hn := HO.out.len; simp only [List.length_append, List.length_cons, List.length_nil, L_len] at hn; omega) ?_; intro w1 n1 ho1 hg1; have HO1 := hide ho1; have HB1 := hide (HB.out.trans (below_grown hg1 HB.out.size)); clear ho1 hg1)
    | (at_builtin; refine appS w1 rfl (.tmp 47) (.tmp 48) rfl w.heap.size C n1 _ au rfl rfl HO1.out (by omega) (by have hn := HO1.out.len; simp only [List.length_append, List.length_cons, List.length_nil, L_len] at hn; omega) ?_; intro w2 n2 ho2 hg2; have HO2 := hide ho2; have HB2 := hide (HB1.out.trans (below_grown hg2 HB1.out.size)); clear ho2 hg2)
    | (at_builtin; refine appS w2 rfl (.tmp 50) (.tmp 51) rfl w.heap.size C n2 _ pa rfl rfl HO2.out (by omega) (by have hn := HO2.out.len; simp only [List.length_append, List.length_cons, List.length_nil, L_len] at hn; omega) ?_; intro w3 n3 ho3 hg3; have hcv := own_convert ho3; have HO3 := hide ho3; have HB3 := hide (HB2.out.trans (below_grown hg3 HB2.out.size)); clear ho3 hg3))
  rw [← HQ.out]
  refine ⟨?_, HB3.out⟩
  show Ending.returned (.string _) = .returned (.string _)
  congr 3
  simp [joinL]
set_option maxRecDepth 100000 in
set_option maxHeartbeats 4000000 in
theorem join_0101 (sc au pa qu fr : ByteArray) (w : World) (hs : (sc.size : Int) + au.size + pa.size + qu.size + fr.size ≤ 2097152) :
    Calls Tryd.prog 6 #[.string sc, .string au, .string pa, .string qu, .string fr, .bool false, .bool true, .bool false, .bool true] w fun e w' => e = .returned (.string (ofL (joinL (L sc) (L au) (L pa) (L qu) (L fr) false true false true))) ∧ Below w.heap.size w w' := by
  generalize hQ : (fun (e : Ending) (w' : World) => e = .returned (.string (ofL (joinL (L sc) (L au) (L pa) (L qu) (L fr) false true false true))) ∧ Below w.heap.size w w') = Q
  have HQ := hide hQ
  obtain ⟨C, hC⟩ : ∃ C : Nat, C = sc.size + au.size + pa.size + qu.size + fr.size + 5 := ⟨_, rfl⟩
  have hCI : (sc.size : Int) + au.size + pa.size + qu.size + fr.size + 5 = C := by omega
  obtain ⟨Z, hZ, hmk⟩ := run_make 0 C (Nat.zero_le _) (by omega) w
  have hO : OwnB w.heap.size C 0 [] (w.alloc (.cells Z 5)) := ⟨rfl, World.ownsRow_made w _ C (Nat.le_refl _) (by simp [maxLen]; omega) (by rw [hZ, Nat.mul_one])⟩
  have HO := hide hO
  have HB : Hid (Below w.heap.size w (w.alloc (.cells Z 5))) := hide ((Below.refl _ _).alloc (Nat.le_refl _) _)
  rw [← hCI] at hmk
  have hmk : (Instr.makeSlice 28 (.int .i64 0) (.int .i64 ((sc.size : Int) + au.size + pa.size + qu.size + fr.size + 5))).run Tryd.prog w = .ok (.slice (some ⟨w.heap.size, 0, none⟩) 0 C) (w.alloc (.cells Z 5)) := hmk
  have hC1 : sc.size + au.size + pa.size + qu.size + fr.size + 5 ≤ C := by omega
  clear hQ hO hZ hCI hC
  go_enter Tryd.func6, Tryd.ntmps6
  go_wp2_with (first
    | (at_builtin; refine app1 (w.alloc (.cells Z 5)) rfl (.tmp 44) (.tmp 45) rfl w.heap.size C 0 _ [47, 47] 2 #[.int .u8 47, .int .u8 47] rfl rfl rfl (by first | rfl | (rw [World.size_alloc]; rfl)) HO.out (by have hn := HO.out.len; simp only [List.length_append, List.length_cons, List.length_nil, L_len] at hn; omega) ?_; intro w1 n1 ho1 hg1; have HO1 := hide ho1; have HB1 := hide (HB.out.trans (below_grown hg1 HB.out.size)); clear ho1 hg1)
    | (at_builtin; refine appS w1 rfl (.tmp 47) (.tmp 48) rfl w.heap.size C n1 _ au rfl rfl HO1.out (by omega) (by have hn := HO1.out.len; simp only [List.length_append, List.length_cons, List.length_nil, L_len] at hn; omega) ?_; intro w2 n2 ho2 hg2; have HO2 := hide ho2; have HB2 := hide (HB1.out.trans (below_grown hg2 HB1.out.size)); clear ho2 hg2)
    | (at_builtin; refine appS w2 rfl (.tmp 50) (.tmp 51) rfl w.heap.size C n2 _ pa rfl rfl HO2.out (by omega) (by have hn := HO2.out.len; simp only [List.length_append, List.length_cons, List.length_nil, L_len] at hn; omega) ?_; intro w3 n3 ho3 hg3; have HO3 := hide ho3; have HB3 := hide (HB2.out.trans (below_grown hg3 HB2.out.size)); clear ho3 hg3)
    | (at_builtin; refine app1 w3 rfl (.tmp 61) (.tmp 62) rfl w.heap.size C n3 _ [35] 1 #[.int .u8 35] rfl rfl rfl (by first | rfl | (rw [World.size_alloc]; rfl)) HO3.out (by have hn := HO3.out.len; simp only [List.length_append, List.length_cons, List.length_nil, L_len] at hn; omega) ?_; intro w4 n4 ho4 hg4; have HO4 := hide ho4; have HB4 := hide (HB3.out.trans (below_grown hg4 HB3.out.size)); clear ho4 hg4)
    | (at_builtin; refine appS w4 rfl (.tmp 64) (.tmp 65) rfl w.heap.size C n4 _ fr rfl rfl HO4.out (by omega) (by have hn := HO4.out.len; simp only [List.length_append, List.length_cons, List.length_nil, L_len] at hn; omega) ?_; intro w5 n5 ho5 hg5; have hcv := own_convert ho5; have HO5 := hide ho5; have HB5 := hide (HB4.out.trans (below_grown hg5 HB4.out.size)); clear ho5 hg5))
  rw [← HQ.out]
  refine ⟨?_, HB5.out⟩
  show Ending.returned (.string _) = .returned (.string _)
  congr 3
  simp [joinL]
set_option maxRecDepth 100000 in
set_option maxHeartbeats 4000000 in
theorem join_0110 (sc au pa qu fr : ByteArray) (w : World) (hs : (sc.size : Int) + au.size + pa.size + qu.size + fr.size ≤ 2097152) :
    Calls Tryd.prog 6 #[.string sc, .string au, .string pa, .string qu, .string fr, .bool false, .bool true, .bool true, .bool false] w fun e w' => e = .returned (.string (ofL (joinL (L sc) (L au) (L pa) (L qu) (L fr) false true true false))) ∧ Below w.heap.size w w' := by
  generalize hQ : (fun (e : Ending) (w' : World) => e = .returned (.string (ofL (joinL (L sc) (L au) (L pa) (L qu) (L fr) false true true false))) ∧ Below w.heap.size w w') = Q
  have HQ := hide hQ
  obtain ⟨C, hC⟩ : ∃ C : Nat, C = sc.size + au.size + pa.size + qu.size + fr.size + 5 := ⟨_, rfl⟩
  have hCI : (sc.size : Int) + au.size + pa.size + qu.size + fr.size + 5 = C := by omega
  obtain ⟨Z, hZ, hmk⟩ := run_make 0 C (Nat.zero_le _) (by omega) w
  have hO : OwnB w.heap.size C 0 [] (w.alloc (.cells Z 5)) := ⟨rfl, World.ownsRow_made w _ C (Nat.le_refl _) (by simp [maxLen]; omega) (by rw [hZ, Nat.mul_one])⟩
  have HO := hide hO
  have HB : Hid (Below w.heap.size w (w.alloc (.cells Z 5))) := hide ((Below.refl _ _).alloc (Nat.le_refl _) _)
  rw [← hCI] at hmk
  have hmk : (Instr.makeSlice 28 (.int .i64 0) (.int .i64 ((sc.size : Int) + au.size + pa.size + qu.size + fr.size + 5))).run Tryd.prog w = .ok (.slice (some ⟨w.heap.size, 0, none⟩) 0 C) (w.alloc (.cells Z 5)) := hmk
  have hC1 : sc.size + au.size + pa.size + qu.size + fr.size + 5 ≤ C := by omega
  clear hQ hO hZ hCI hC
  go_enter Tryd.func6, Tryd.ntmps6
  go_wp2_with (first
    | (at_builtin; refine app1 (w.alloc (.cells Z 5)) rfl (.tmp 44) (.tmp 45) rfl w.heap.size C 0 _ [47, 47] 2 #[.int .u8 47, .int .u8 47] rfl rfl rfl (by first | rfl | (rw [World.size_alloc]; rfl)) HO.out (by have hn := HO.out.len; simp only [List.length_append, List.length_cons, List.length_nil, L_len] at hn; omega) ?_; intro w1 n1 ho1 hg1; have HO1 := hide ho1; have HB1 := hide (HB.out.trans (below_grown hg1 HB.out.size)); clear ho1 hg1)
    | (at_builtin; refine appS w1 rfl (.tmp 47) (.tmp 48) rfl w.heap.size C n1 _ au rfl rfl HO1.out (by omega) (by have hn := HO1.out.len; simp only [List.length_append, List.length_cons, List.length_nil, L_len] at hn; omega) ?_; intro w2 n2 ho2 hg2; have HO2 := hide ho2; have HB2 := hide (HB1.out.trans (below_grown hg2 HB1.out.size)); clear ho2 hg2)
    | (at_builtin; refine appS w2 rfl (.tmp 50) (.tmp 51) rfl w.heap.size C n2 _ pa rfl rfl HO2.out (by omega) (by have hn := HO2.out.len; simp only [List.length_append, List.length_cons, List.length_nil, L_len] at hn; omega) ?_; intro w3 n3 ho3 hg3; have HO3 := hide ho3; have HB3 := hide (HB2.out.trans (below_grown hg3 HB2.out.size)); clear ho3 hg3)
    | (at_builtin; refine app1 w3 rfl (.tmp 54) (.tmp 55) rfl w.heap.size C n3 _ [63] 1 #[.int .u8 63] rfl rfl rfl (by first | rfl | (rw [World.size_alloc]; rfl)) HO3.out (by have hn := HO3.out.len; simp only [List.length_append, List.length_cons, List.length_nil, L_len] at hn; omega) ?_; intro w4 n4 ho4 hg4; have HO4 := hide ho4; have HB4 := hide (HB3.out.trans (below_grown hg4 HB3.out.size)); clear ho4 hg4)
    | (at_builtin; refine appS w4 rfl (.tmp 57) (.tmp 58) rfl w.heap.size C n4 _ qu rfl rfl HO4.out (by omega) (by have hn := HO4.out.len; simp only [List.length_append, List.length_cons, List.length_nil, L_len] at hn; omega) ?_; intro w5 n5 ho5 hg5; have hcv := own_convert ho5; have HO5 := hide ho5; have HB5 := hide (HB4.out.trans (below_grown hg5 HB4.out.size)); clear ho5 hg5))
  rw [← HQ.out]
  refine ⟨?_, HB5.out⟩
  show Ending.returned (.string _) = .returned (.string _)
  congr 3
  simp [joinL]
set_option maxRecDepth 100000 in
set_option maxHeartbeats 4000000 in
theorem join_0111 (sc au pa qu fr : ByteArray) (w : World) (hs : (sc.size : Int) + au.size + pa.size + qu.size + fr.size ≤ 2097152) :
    Calls Tryd.prog 6 #[.string sc, .string au, .string pa, .string qu, .string fr, .bool false, .bool true, .bool true, .bool true] w fun e w' => e = .returned (.string (ofL (joinL (L sc) (L au) (L pa) (L qu) (L fr) false true true true))) ∧ Below w.heap.size w w' := by
  generalize hQ : (fun (e : Ending) (w' : World) => e = .returned (.string (ofL (joinL (L sc) (L au) (L pa) (L qu) (L fr) false true true true))) ∧ Below w.heap.size w w') = Q
  have HQ := hide hQ
  obtain ⟨C, hC⟩ : ∃ C : Nat, C = sc.size + au.size + pa.size + qu.size + fr.size + 5 := ⟨_, rfl⟩
  have hCI : (sc.size : Int) + au.size + pa.size + qu.size + fr.size + 5 = C := by omega
  obtain ⟨Z, hZ, hmk⟩ := run_make 0 C (Nat.zero_le _) (by omega) w
  have hO : OwnB w.heap.size C 0 [] (w.alloc (.cells Z 5)) := ⟨rfl, World.ownsRow_made w _ C (Nat.le_refl _) (by simp [maxLen]; omega) (by rw [hZ, Nat.mul_one])⟩
  have HO := hide hO
  have HB : Hid (Below w.heap.size w (w.alloc (.cells Z 5))) := hide ((Below.refl _ _).alloc (Nat.le_refl _) _)
  rw [← hCI] at hmk
  have hmk : (Instr.makeSlice 28 (.int .i64 0) (.int .i64 ((sc.size : Int) + au.size + pa.size + qu.size + fr.size + 5))).run Tryd.prog w = .ok (.slice (some ⟨w.heap.size, 0, none⟩) 0 C) (w.alloc (.cells Z 5)) := hmk
  have hC1 : sc.size + au.size + pa.size + qu.size + fr.size + 5 ≤ C := by omega
  clear hQ hO hZ hCI hC
  go_enter Tryd.func6, Tryd.ntmps6
  go_wp2_with (first
    | (at_builtin; refine app1 (w.alloc (.cells Z 5)) rfl (.tmp 44) (.tmp 45) rfl w.heap.size C 0 _ [47, 47] 2 #[.int .u8 47, .int .u8 47] rfl rfl rfl (by first | rfl | (rw [World.size_alloc]; rfl)) HO.out (by have hn := HO.out.len; simp only [List.length_append, List.length_cons, List.length_nil, L_len] at hn; omega) ?_; intro w1 n1 ho1 hg1; have HO1 := hide ho1; have HB1 := hide (HB.out.trans (below_grown hg1 HB.out.size)); clear ho1 hg1)
    | (at_builtin; refine appS w1 rfl (.tmp 47) (.tmp 48) rfl w.heap.size C n1 _ au rfl rfl HO1.out (by omega) (by have hn := HO1.out.len; simp only [List.length_append, List.length_cons, List.length_nil, L_len] at hn; omega) ?_; intro w2 n2 ho2 hg2; have HO2 := hide ho2; have HB2 := hide (HB1.out.trans (below_grown hg2 HB1.out.size)); clear ho2 hg2)
    | (at_builtin; refine appS w2 rfl (.tmp 50) (.tmp 51) rfl w.heap.size C n2 _ pa rfl rfl HO2.out (by omega) (by have hn := HO2.out.len; simp only [List.length_append, List.length_cons, List.length_nil, L_len] at hn; omega) ?_; intro w3 n3 ho3 hg3; have HO3 := hide ho3; have HB3 := hide (HB2.out.trans (below_grown hg3 HB2.out.size)); clear ho3 hg3)
    | (at_builtin; refine app1 w3 rfl (.tmp 54) (.tmp 55) rfl w.heap.size C n3 _ [63] 1 #[.int .u8 63] rfl rfl rfl (by first | rfl | (rw [World.size_alloc]; rfl)) HO3.out (by have hn := HO3.out.len; simp only [List.length_append, List.length_cons, List.length_nil, L_len] at hn; omega) ?_; intro w4 n4 ho4 hg4; have HO4 := hide ho4; have HB4 := hide (HB3.out.trans (below_grown hg4 HB3.out.size)); clear ho4 hg4)
    | (at_builtin; refine appS w4 rfl (.tmp 57) (.tmp 58) rfl w.heap.size C n4 _ qu rfl rfl HO4.out (by omega) (by have hn := HO4.out.len; simp only [List.length_append, List.length_cons, List.length_nil, L_len] at hn; omega) ?_; intro w5 n5 ho5 hg5; have HO5 := hide ho5; have HB5 := hide (HB4.out.trans (below_grown hg5 HB4.out.size)); clear ho5 hg5)
    | (at_builtin; refine app1 w5 rfl (.tmp 61) (.tmp 62) rfl w.heap.size C n5 _ [35] 1 #[.int .u8 35] rfl rfl rfl (by first | rfl | (rw [World.size_alloc]; rfl)) HO5.out (by have hn := HO5.out.len; simp only [List.length_append, List.length_cons, List.length_nil, L_len] at hn; omega) ?_; intro w6 n6 ho6 hg6; have HO6 := hide ho6; have HB6 := hide (HB5.out.trans (below_grown hg6 HB5.out.size)); clear ho6 hg6)
    | (at_builtin; refine appS w6 rfl (.tmp 64) (.tmp 65) rfl w.heap.size C n6 _ fr rfl rfl HO6.out (by omega) (by have hn := HO6.out.len; simp only [List.length_append, List.length_cons, List.length_nil, L_len] at hn; omega) ?_; intro w7 n7 ho7 hg7; have hcv := own_convert ho7; have HO7 := hide ho7; have HB7 := hide (HB6.out.trans (below_grown hg7 HB6.out.size)); clear ho7 hg7))
  rw [← HQ.out]
  refine ⟨?_, HB7.out⟩
  show Ending.returned (.string _) = .returned (.string _)
  congr 3
  simp [joinL]
set_option maxRecDepth 100000 in
set_option maxHeartbeats 4000000 in
theorem join_1000 (sc au pa qu fr : ByteArray) (w : World) (hs : (sc.size : Int) + au.size + pa.size + qu.size + fr.size ≤ 2097152) :
    Calls Tryd.prog 6 #[.string sc, .string au, .string pa, .string qu, .string fr, .bool true, .bool false, .bool false, .bool false] w fun e w' => e = .returned (.string (ofL (joinL (L sc) (L au) (L pa) (L qu) (L fr) true false false false))) ∧ Below w.heap.size w w' := by
  generalize hQ : (fun (e : Ending) (w' : World) => e = .returned (.string (ofL (joinL (L sc) (L au) (L pa) (L qu) (L fr) true false false false))) ∧ Below w.heap.size w w') = Q
  have HQ := hide hQ
  obtain ⟨C, hC⟩ : ∃ C : Nat, C = sc.size + au.size + pa.size + qu.size + fr.size + 5 := ⟨_, rfl⟩
  have hCI : (sc.size : Int) + au.size + pa.size + qu.size + fr.size + 5 = C := by omega
  obtain ⟨Z, hZ, hmk⟩ := run_make 0 C (Nat.zero_le _) (by omega) w
  have hO : OwnB w.heap.size C 0 [] (w.alloc (.cells Z 5)) := ⟨rfl, World.ownsRow_made w _ C (Nat.le_refl _) (by simp [maxLen]; omega) (by rw [hZ, Nat.mul_one])⟩
  have HO := hide hO
  have HB : Hid (Below w.heap.size w (w.alloc (.cells Z 5))) := hide ((Below.refl _ _).alloc (Nat.le_refl _) _)
  rw [← hCI] at hmk
  have hmk : (Instr.makeSlice 28 (.int .i64 0) (.int .i64 ((sc.size : Int) + au.size + pa.size + qu.size + fr.size + 5))).run Tryd.prog w = .ok (.slice (some ⟨w.heap.size, 0, none⟩) 0 C) (w.alloc (.cells Z 5)) := hmk
  have hC1 : sc.size + au.size + pa.size + qu.size + fr.size + 5 ≤ C := by omega
  clear hQ hO hZ hCI hC
  go_enter Tryd.func6, Tryd.ntmps6
  go_wp2_with (first
    | (at_builtin; refine appS (w.alloc (.cells Z 5)) rfl (.tmp 37) (.tmp 38) rfl w.heap.size C 0 _ sc rfl rfl HO.out (by omega) (by have hn := HO.out.len; simp only [List.length_append, List.length_cons, List.length_nil, L_len] at hn; omega) ?_; intro w1 n1 ho1 hg1; have HO1 := hide ho1; have HB1 := hide (HB.out.trans (below_grown hg1 HB.out.size)); clear ho1 hg1)
    | (at_builtin; refine app1 w1 rfl (.tmp 40) (.tmp 41) rfl w.heap.size C n1 _ [58] 1 #[.int .u8 58] rfl rfl rfl (by first | rfl | (rw [World.size_alloc]; rfl)) HO1.out (by have hn := HO1.out.len; simp only [List.length_append, List.length_cons, List.length_nil, L_len] at hn; omega) ?_; intro w2 n2 ho2 hg2; have HO2 := hide ho2; have HB2 := hide (HB1.out.trans (below_grown hg2 HB1.out.size)); clear ho2 hg2)
    | (at_builtin; refine appS w2 rfl (.tmp 50) (.tmp 51) rfl w.heap.size C n2 _ pa rfl rfl HO2.out (by omega) (by have hn := HO2.out.len; simp only [List.length_append, List.length_cons, List.length_nil, L_len] at hn; omega) ?_; intro w3 n3 ho3 hg3; have hcv := own_convert ho3; have HO3 := hide ho3; have HB3 := hide (HB2.out.trans (below_grown hg3 HB2.out.size)); clear ho3 hg3))
  rw [← HQ.out]
  refine ⟨?_, HB3.out⟩
  show Ending.returned (.string _) = .returned (.string _)
  congr 3
  simp [joinL]
set_option maxRecDepth 100000 in
set_option maxHeartbeats 4000000 in
theorem join_1001 (sc au pa qu fr : ByteArray) (w : World) (hs : (sc.size : Int) + au.size + pa.size + qu.size + fr.size ≤ 2097152) :
    Calls Tryd.prog 6 #[.string sc, .string au, .string pa, .string qu, .string fr, .bool true, .bool false, .bool false, .bool true] w fun e w' => e = .returned (.string (ofL (joinL (L sc) (L au) (L pa) (L qu) (L fr) true false false true))) ∧ Below w.heap.size w w' := by
  generalize hQ : (fun (e : Ending) (w' : World) => e = .returned (.string (ofL (joinL (L sc) (L au) (L pa) (L qu) (L fr) true false false true))) ∧ Below w.heap.size w w') = Q
  have HQ := hide hQ
  obtain ⟨C, hC⟩ : ∃ C : Nat, C = sc.size + au.size + pa.size + qu.size + fr.size + 5 := ⟨_, rfl⟩
  have hCI : (sc.size : Int) + au.size + pa.size + qu.size + fr.size + 5 = C := by omega
  obtain ⟨Z, hZ, hmk⟩ := run_make 0 C (Nat.zero_le _) (by omega) w
  have hO : OwnB w.heap.size C 0 [] (w.alloc (.cells Z 5)) := ⟨rfl, World.ownsRow_made w _ C (Nat.le_refl _) (by simp [maxLen]; omega) (by rw [hZ, Nat.mul_one])⟩
  have HO := hide hO
  have HB : Hid (Below w.heap.size w (w.alloc (.cells Z 5))) := hide ((Below.refl _ _).alloc (Nat.le_refl _) _)
  rw [← hCI] at hmk
  have hmk : (Instr.makeSlice 28 (.int .i64 0) (.int .i64 ((sc.size : Int) + au.size + pa.size + qu.size + fr.size + 5))).run Tryd.prog w = .ok (.slice (some ⟨w.heap.size, 0, none⟩) 0 C) (w.alloc (.cells Z 5)) := hmk
  have hC1 : sc.size + au.size + pa.size + qu.size + fr.size + 5 ≤ C := by omega
  clear hQ hO hZ hCI hC
  go_enter Tryd.func6, Tryd.ntmps6
  go_wp2_with (first
    | (at_builtin; refine appS (w.alloc (.cells Z 5)) rfl (.tmp 37) (.tmp 38) rfl w.heap.size C 0 _ sc rfl rfl HO.out (by omega) (by have hn := HO.out.len; simp only [List.length_append, List.length_cons, List.length_nil, L_len] at hn; omega) ?_; intro w1 n1 ho1 hg1; have HO1 := hide ho1; have HB1 := hide (HB.out.trans (below_grown hg1 HB.out.size)); clear ho1 hg1)
    | (at_builtin; refine app1 w1 rfl (.tmp 40) (.tmp 41) rfl w.heap.size C n1 _ [58] 1 #[.int .u8 58] rfl rfl rfl (by first | rfl | (rw [World.size_alloc]; rfl)) HO1.out (by have hn := HO1.out.len; simp only [List.length_append, List.length_cons, List.length_nil, L_len] at hn; omega) ?_; intro w2 n2 ho2 hg2; have HO2 := hide ho2; have HB2 := hide (HB1.out.trans (below_grown hg2 HB1.out.size)); clear ho2 hg2)
    | (at_builtin; refine appS w2 rfl (.tmp 50) (.tmp 51) rfl w.heap.size C n2 _ pa rfl rfl HO2.out (by omega) (by have hn := HO2.out.len; simp only [List.length_append, List.length_cons, List.length_nil, L_len] at hn; omega) ?_; intro w3 n3 ho3 hg3; have HO3 := hide ho3; have HB3 := hide (HB2.out.trans (below_grown hg3 HB2.out.size)); clear ho3 hg3)
    | (at_builtin; refine app1 w3 rfl (.tmp 61) (.tmp 62) rfl w.heap.size C n3 _ [35] 1 #[.int .u8 35] rfl rfl rfl (by first | rfl | (rw [World.size_alloc]; rfl)) HO3.out (by have hn := HO3.out.len; simp only [List.length_append, List.length_cons, List.length_nil, L_len] at hn; omega) ?_; intro w4 n4 ho4 hg4; have HO4 := hide ho4; have HB4 := hide (HB3.out.trans (below_grown hg4 HB3.out.size)); clear ho4 hg4)
    | (at_builtin; refine appS w4 rfl (.tmp 64) (.tmp 65) rfl w.heap.size C n4 _ fr rfl rfl HO4.out (by omega) (by have hn := HO4.out.len; simp only [List.length_append, List.length_cons, List.length_nil, L_len] at hn; omega) ?_; intro w5 n5 ho5 hg5; have hcv := own_convert ho5; have HO5 := hide ho5; have HB5 := hide (HB4.out.trans (below_grown hg5 HB4.out.size)); clear ho5 hg5))
  rw [← HQ.out]
  refine ⟨?_, HB5.out⟩
  show Ending.returned (.string _) = .returned (.string _)
  congr 3
  simp [joinL]
set_option maxRecDepth 100000 in
set_option maxHeartbeats 4000000 in
theorem join_1010 (sc au pa qu fr : ByteArray) (w : World) (hs : (sc.size : Int) + au.size + pa.size + qu.size + fr.size ≤ 2097152) :
    Calls Tryd.prog 6 #[.string sc, .string au, .string pa, .string qu, .string fr, .bool true, .bool false, .bool true, .bool false] w fun e w' => e = .returned (.string (ofL (joinL (L sc) (L au) (L pa) (L qu) (L fr) true false true false))) ∧ Below w.heap.size w w' := by
  generalize hQ : (fun (e : Ending) (w' : World) => e = .returned (.string (ofL (joinL (L sc) (L au) (L pa) (L qu) (L fr) true false true false))) ∧ Below w.heap.size w w') = Q
  have HQ := hide hQ
  obtain ⟨C, hC⟩ : ∃ C : Nat, C = sc.size + au.size + pa.size + qu.size + fr.size + 5 := ⟨_, rfl⟩
  have hCI : (sc.size : Int) + au.size + pa.size + qu.size + fr.size + 5 = C := by omega
  obtain ⟨Z, hZ, hmk⟩ := run_make 0 C (Nat.zero_le _) (by omega) w
  have hO : OwnB w.heap.size C 0 [] (w.alloc (.cells Z 5)) := ⟨rfl, World.ownsRow_made w _ C (Nat.le_refl _) (by simp [maxLen]; omega) (by rw [hZ, Nat.mul_one])⟩
  have HO := hide hO
  have HB : Hid (Below w.heap.size w (w.alloc (.cells Z 5))) := hide ((Below.refl _ _).alloc (Nat.le_refl _) _)
  rw [← hCI] at hmk
  have hmk : (Instr.makeSlice 28 (.int .i64 0) (.int .i64 ((sc.size : Int) + au.size + pa.size + qu.size + fr.size + 5))).run Tryd.prog w = .ok (.slice (some ⟨w.heap.size, 0, none⟩) 0 C) (w.alloc (.cells Z 5)) := hmk
  have hC1 : sc.size + au.size + pa.size + qu.size + fr.size + 5 ≤ C := by omega
  clear hQ hO hZ hCI hC
  go_enter Tryd.func6, Tryd.ntmps6
  go_wp2_with (first
    | (at_builtin; refine appS (w.alloc (.cells Z 5)) rfl (.tmp 37) (.tmp 38) rfl w.heap.size C 0 _ sc rfl rfl HO.out (by omega) (by have hn := HO.out.len; simp only [List.length_append, List.length_cons, List.length_nil, L_len] at hn; omega) ?_; intro w1 n1 ho1 hg1; have HO1 := hide ho1; have HB1 := hide (HB.out.trans (below_grown hg1 HB.out.size)); clear ho1 hg1)
    | (at_builtin; refine app1 w1 rfl (.tmp 40) (.tmp 41) rfl w.heap.size C n1 _ [58] 1 #[.int .u8 58] rfl rfl rfl (by first | rfl | (rw [World.size_alloc]; rfl)) HO1.out (by have hn := HO1.out.len; simp only [List.length_append, List.length_cons, List.length_nil, L_len] at hn; omega) ?_; intro w2 n2 ho2 hg2; have HO2 := hide ho2; have HB2 := hide (HB1.out.trans (below_grown hg2 HB1.out.size)); clear ho2 hg2)
    | (at_builtin; refine appS w2 rfl (.tmp 50) (.tmp 51) rfl w.heap.size C n2 _ pa rfl rfl HO2.out (by omega) (by have hn := HO2.out.len; simp only [List.length_append, List.length_cons, List.length_nil, L_len] at hn; omega) ?_; intro w3 n3 ho3 hg3; have HO3 := hide ho3; have HB3 := hide (HB2.out.trans (below_grown hg3 HB2.out.size)); clear ho3 hg3)
    | (at_builtin; refine app1 w3 rfl (.tmp 54) (.tmp 55) rfl w.heap.size C n3 _ [63] 1 #[.int .u8 63] rfl rfl rfl (by first | rfl | (rw [World.size_alloc]; rfl)) HO3.out (by have hn := HO3.out.len; simp only [List.length_append, List.length_cons, List.length_nil, L_len] at hn; omega) ?_; intro w4 n4 ho4 hg4; have HO4 := hide ho4; have HB4 := hide (HB3.out.trans (below_grown hg4 HB3.out.size)); clear ho4 hg4)
    | (at_builtin; refine appS w4 rfl (.tmp 57) (.tmp 58) rfl w.heap.size C n4 _ qu rfl rfl HO4.out (by omega) (by have hn := HO4.out.len; simp only [List.length_append, List.length_cons, List.length_nil, L_len] at hn; omega) ?_; intro w5 n5 ho5 hg5; have hcv := own_convert ho5; have HO5 := hide ho5; have HB5 := hide (HB4.out.trans (below_grown hg5 HB4.out.size)); clear ho5 hg5))
  rw [← HQ.out]
  refine ⟨?_, HB5.out⟩
  show Ending.returned (.string _) = .returned (.string _)
  congr 3
  simp [joinL]
set_option maxRecDepth 100000 in
set_option maxHeartbeats 4000000 in
theorem join_1011 (sc au pa qu fr : ByteArray) (w : World) (hs : (sc.size : Int) + au.size + pa.size + qu.size + fr.size ≤ 2097152) :
    Calls Tryd.prog 6 #[.string sc, .string au, .string pa, .string qu, .string fr, .bool true, .bool false, .bool true, .bool true] w fun e w' => e = .returned (.string (ofL (joinL (L sc) (L au) (L pa) (L qu) (L fr) true false true true))) ∧ Below w.heap.size w w' := by
  generalize hQ : (fun (e : Ending) (w' : World) => e = .returned (.string (ofL (joinL (L sc) (L au) (L pa) (L qu) (L fr) true false true true))) ∧ Below w.heap.size w w') = Q
  have HQ := hide hQ
  obtain ⟨C, hC⟩ : ∃ C : Nat, C = sc.size + au.size + pa.size + qu.size + fr.size + 5 := ⟨_, rfl⟩
  have hCI : (sc.size : Int) + au.size + pa.size + qu.size + fr.size + 5 = C := by omega
  obtain ⟨Z, hZ, hmk⟩ := run_make 0 C (Nat.zero_le _) (by omega) w
  have hO : OwnB w.heap.size C 0 [] (w.alloc (.cells Z 5)) := ⟨rfl, World.ownsRow_made w _ C (Nat.le_refl _) (by simp [maxLen]; omega) (by rw [hZ, Nat.mul_one])⟩
  have HO := hide hO
  have HB : Hid (Below w.heap.size w (w.alloc (.cells Z 5))) := hide ((Below.refl _ _).alloc (Nat.le_refl _) _)
  rw [← hCI] at hmk
  have hmk : (Instr.makeSlice 28 (.int .i64 0) (.int .i64 ((sc.size : Int) + au.size + pa.size + qu.size + fr.size + 5))).run Tryd.prog w = .ok (.slice (some ⟨w.heap.size, 0, none⟩) 0 C) (w.alloc (.cells Z 5)) := hmk
  have hC1 : sc.size + au.size + pa.size + qu.size + fr.size + 5 ≤ C := by omega
  clear hQ hO hZ hCI hC
  go_enter Tryd.func6, Tryd.ntmps6
  go_wp2_with (first
    | (at_builtin; refine appS (w.alloc (.cells Z 5)) rfl (.tmp 37) (.tmp 38) rfl w.heap.size C 0 _ sc rfl rfl HO.out (by omega) (by have hn := HO.out.len; simp only [List.length_append, List.length_cons, List.length_nil, L_len] at hn; omega) ?_; intro w1 n1 ho1 hg1; have HO1 := hide ho1; have HB1 := hide (HB.out.trans (below_grown hg1 HB.out.size)); clear ho1 hg1)
    | (at_builtin; refine app1 w1 rfl (.tmp 40) (.tmp 41) rfl w.heap.size C n1 _ [58] 1 #[.int .u8 58] rfl rfl rfl (by first | rfl | (rw [World.size_alloc]; rfl)) HO1.out (by have hn := HO1.out.len; simp only [List.length_append, List.length_cons, List.length_nil, L_len] at hn; omega) ?_; intro w2 n2 ho2 hg2; have HO2 := hide ho2; have HB2 := hide (HB1.out.trans (below_grown hg2 HB1.out.size)); clear ho2 hg2)
    | (at_builtin; refine appS w2 rfl (.tmp 50) (.tmp 51) rfl w.heap.size C n2 _ pa rfl rfl HO2.out (by omega) (by have hn := HO2.out.len; simp only [List.length_append, List.length_cons, List.length_nil, L_len] at hn; omega) ?_; intro w3 n3 ho3 hg3; have HO3 := hide ho3; have HB3 := hide (HB2.out.trans (below_grown hg3 HB2.out.size)); clear ho3 hg3)
    | (at_builtin; refine app1 w3 rfl (.tmp 54) (.tmp 55) rfl w.heap.size C n3 _ [63] 1 #[.int .u8 63] rfl rfl rfl (by first | rfl | (rw [World.size_alloc]; rfl)) HO3.out (by have hn := HO3.out.len; simp only [List.length_append, List.length_cons, List.length_nil, L_len] at hn; omega) ?_; intro w4 n4 ho4 hg4; have HO4 := hide ho4; have HB4 := hide (HB3.out.trans (below_grown hg4 HB3.out.size)); clear ho4 hg4)
    | (at_builtin; refine appS w4 rfl (.tmp 57) (.tmp 58) rfl w.heap.size C n4 _ qu rfl rfl HO4.out (by omega) (by have hn := HO4.out.len; simp only [List.length_append, List.length_cons, List.length_nil, L_len] at hn; omega) ?_; intro w5 n5 ho5 hg5; have HO5 := hide ho5; have HB5 := hide (HB4.out.trans (below_grown hg5 HB4.out.size)); clear ho5 hg5)
    | (at_builtin; refine app1 w5 rfl (.tmp 61) (.tmp 62) rfl w.heap.size C n5 _ [35] 1 #[.int .u8 35] rfl rfl rfl (by first | rfl | (rw [World.size_alloc]; rfl)) HO5.out (by have hn := HO5.out.len; simp only [List.length_append, List.length_cons, List.length_nil, L_len] at hn; omega) ?_; intro w6 n6 ho6 hg6; have HO6 := hide ho6; have HB6 := hide (HB5.out.trans (below_grown hg6 HB5.out.size)); clear ho6 hg6)
    | (at_builtin; refine appS w6 rfl (.tmp 64) (.tmp 65) rfl w.heap.size C n6 _ fr rfl rfl HO6.out (by omega) (by have hn := HO6.out.len; simp only [List.length_append, List.length_cons, List.length_nil, L_len] at hn; omega) ?_; intro w7 n7 ho7 hg7; have hcv := own_convert ho7; have HO7 := hide ho7; have HB7 := hide (HB6.out.trans (below_grown hg7 HB6.out.size)); clear ho7 hg7))
  rw [← HQ.out]
  refine ⟨?_, HB7.out⟩
  show Ending.returned (.string _) = .returned (.string _)
  congr 3
  simp [joinL]
set_option maxRecDepth 100000 in
set_option maxHeartbeats 4000000 in
theorem join_1100 (sc au pa qu fr : ByteArray) (w : World) (hs : (sc.size : Int) + au.size + pa.size + qu.size + fr.size ≤ 2097152) :
    Calls Tryd.prog 6 #[.string sc, .string au, .string pa, .string qu, .string fr, .bool true, .bool true, .bool false, .bool false] w fun e w' => e = .returned (.string (ofL (joinL (L sc) (L au) (L pa) (L qu) (L fr) true true false false))) ∧ Below w.heap.size w w' := by
  generalize hQ : (fun (e : Ending) (w' : World) => e = .returned (.string (ofL (joinL (L sc) (L au) (L pa) (L qu) (L fr) true true false false))) ∧ Below w.heap.size w w') = Q
  have HQ := hide hQ
  obtain ⟨C, hC⟩ : ∃ C : Nat, C = sc.size + au.size + pa.size + qu.size + fr.size + 5 := ⟨_, rfl⟩
  have hCI : (sc.size : Int) + au.size + pa.size + qu.size + fr.size + 5 = C := by omega
  obtain ⟨Z, hZ, hmk⟩ := run_make 0 C (Nat.zero_le _) (by omega) w
  have hO : OwnB w.heap.size C 0 [] (w.alloc (.cells Z 5)) := ⟨rfl, World.ownsRow_made w _ C (Nat.le_refl _) (by simp [maxLen]; omega) (by rw [hZ, Nat.mul_one])⟩
  have HO := hide hO
  have HB : Hid (Below w.heap.size w (w.alloc (.cells Z 5))) := hide ((Below.refl _ _).alloc (Nat.le_refl _) _)
  rw [← hCI] at hmk
  have hmk : (Instr.makeSlice 28 (.int .i64 0) (.int .i64 ((sc.size : Int) + au.size + pa.size + qu.size + fr.size + 5))).run Tryd.prog w = .ok (.slice (some ⟨w.heap.size, 0, none⟩) 0 C) (w.alloc (.cells Z 5)) := hmk
  have hC1 : sc.size + au.size + pa.size + qu.size + fr.size + 5 ≤ C := by omega
  clear hQ hO hZ hCI hC
  go_enter Tryd.func6, Tryd.ntmps6
  go_wp2_with (first
    | (at_builtin; refine appS (w.alloc (.cells Z 5)) rfl (.tmp 37) (.tmp 38) rfl w.heap.size C 0 _ sc rfl rfl HO.out (by omega) (by have hn := HO.out.len; simp only [List.length_append, List.length_cons, List.length_nil, L_len] at hn; omega) ?_; intro w1 n1 ho1 hg1; have HO1 := hide ho1; have HB1 := hide (HB.out.trans (below_grown hg1 HB.out.size)); clear ho1 hg1)
    | (at_builtin; refine app1 w1 rfl (.tmp 40) (.tmp 41) rfl w.heap.size C n1 _ [58] 1 #[.int .u8 58] rfl rfl rfl (by first | rfl | (rw [World.size_alloc]; rfl)) HO1.out (by have hn := HO1.out.len; simp only [List.length_append, List.length_cons, List.length_nil, L_len] at hn; omega) ?_; intro w2 n2 ho2 hg2; have HO2 := hide ho2; have HB2 := hide (HB1.out.trans (below_grown hg2 HB1.out.size)); clear ho2 hg2)
    | (at_builtin; refine app1 w2 rfl (.tmp 44) (.tmp 45) rfl w.heap.size C n2 _ [47, 47] 2 #[.int .u8 47, .int .u8 47] rfl rfl rfl (by first | rfl | (rw [World.size_alloc]; rfl)) HO2.out (by have hn := HO2.out.len; simp only [List.length_append, List.length_cons, List.length_nil, L_len] at hn; omega) ?_; intro w3 n3 ho3 hg3; have HO3 := hide ho3; have HB3 := hide (HB2.out.trans (below_grown hg3 HB2.out.size)); clear ho3 hg3)
    | (at_builtin; refine appS w3 rfl (.tmp 47) (.tmp 48) rfl w.heap.size C n3 _ au rfl rfl HO3.out (by omega) (by have hn := HO3.out.len; simp only [List.length_append, List.length_cons, List.length_nil, L_len] at hn; omega) ?_; intro w4 n4 ho4 hg4; have HO4 := hide ho4; have HB4 := hide (HB3.out.trans (below_grown hg4 HB3.out.size)); clear ho4 hg4)
    | (at_builtin; refine appS w4 rfl (.tmp 50) (.tmp 51) rfl w.heap.size C n4 _ pa rfl rfl HO4.out (by omega) (by have hn := HO4.out.len; simp only [List.length_append, List.length_cons, List.length_nil, L_len] at hn; omega) ?_; intro w5 n5 ho5 hg5; have hcv := own_convert ho5; have HO5 := hide ho5; have HB5 := hide (HB4.out.trans (below_grown hg5 HB4.out.size)); clear ho5 hg5))
  rw [← HQ.out]
  refine ⟨?_, HB5.out⟩
  show Ending.returned (.string _) = .returned (.string _)
  congr 3
  simp [joinL]
set_option maxRecDepth 100000 in
set_option maxHeartbeats 4000000 in
theorem join_1101 (sc au pa qu fr : ByteArray) (w : World) (hs : (sc.size : Int) + au.size + pa.size + qu.size + fr.size ≤ 2097152) :
    Calls Tryd.prog 6 #[.string sc, .string au, .string pa, .string qu, .string fr, .bool true, .bool true, .bool false, .bool true] w fun e w' => e = .returned (.string (ofL (joinL (L sc) (L au) (L pa) (L qu) (L fr) true true false true))) ∧ Below w.heap.size w w' := by
  generalize hQ : (fun (e : Ending) (w' : World) => e = .returned (.string (ofL (joinL (L sc) (L au) (L pa) (L qu) (L fr) true true false true))) ∧ Below w.heap.size w w') = Q
  have HQ := hide hQ
  obtain ⟨C, hC⟩ : ∃ C : Nat, C = sc.size + au.size + pa.size + qu.size + fr.size + 5 := ⟨_, rfl⟩
  have hCI : (sc.size : Int) + au.size + pa.size + qu.size + fr.size + 5 = C := by omega
  obtain ⟨Z, hZ, hmk⟩ := run_make 0 C (Nat.zero_le _) (by omega) w
  have hO : OwnB w.heap.size C 0 [] (w.alloc (.cells Z 5)) := ⟨rfl, World.ownsRow_made w _ C (Nat.le_refl _) (by simp [maxLen]; omega) (by rw [hZ, Nat.mul_one])⟩
  have HO := hide hO
  have HB : Hid (Below w.heap.size w (w.alloc (.cells Z 5))) := hide ((Below.refl _ _).alloc (Nat.le_refl _) _)
  rw [← hCI] at hmk
  have hmk : (Instr.makeSlice 28 (.int .i64 0) (.int .i64 ((sc.size : Int) + au.size + pa.size + qu.size + fr.size + 5))).run Tryd.prog w = .ok (.slice (some ⟨w.heap.size, 0, none⟩) 0 C) (w.alloc (.cells Z 5)) := hmk
  have hC1 : sc.size + au.size + pa.size + qu.size + fr.size + 5 ≤ C := by omega
  clear hQ hO hZ hCI hC
  go_enter Tryd.func6, Tryd.ntmps6
  go_wp2_with (first
    | (at_builtin; refine appS (w.alloc (.cells Z 5)) rfl (.tmp 37) (.tmp 38) rfl w.heap.size C 0 _ sc rfl rfl HO.out (by omega) (by have hn := HO.out.len; simp only [List.length_append, List.length_cons, List.length_nil, L_len] at hn; omega) ?_; intro w1 n1 ho1 hg1; have HO1 := hide ho1; have HB1 := hide (HB.out.trans (below_grown hg1 HB.out.size)); clear ho1 hg1)
    | (at_builtin; refine app1 w1 rfl (.tmp 40) (.tmp 41) rfl w.heap.size C n1 _ [58] 1 #[.int .u8 58] rfl rfl rfl (by first | rfl | (rw [World.size_alloc]; rfl)) HO1.out (by have hn := HO1.out.len; simp only [List.length_append, List.length_cons, List.length_nil, L_len] at hn; omega) ?_; intro w2 n2 ho2 hg2; have HO2 := hide ho2; have HB2 := hide (HB1.out.trans (below_grown hg2 HB1.out.size)); clear ho2 hg2)
    | (at_builtin; refine app1 w2 rfl (.tmp 44) (.tmp 45) rfl w.heap.size C n2 _ [47, 47] 2 #[.int .u8 47, .int .u8 47] rfl rfl rfl (by first | rfl | (rw [World.size_alloc]; rfl)) HO2.out (by have hn := HO2.out.len; simp only [List.length_append, List.length_cons, List.length_nil, L_len] at hn; omega) ?_; intro w3 n3 ho3 hg3; have HO3 := hide ho3; have HB3 := hide (HB2.out.trans (below_grown hg3 HB2.out.size)); clear ho3 hg3)
    | (at_builtin; refine appS w3 rfl (.tmp 47) (.tmp 48) rfl w.heap.size C n3 _ au rfl rfl HO3.out (by omega) (by have hn := HO3.out.len; simp only [List.length_append, List.length_cons, List.length_nil, L_len] at hn; omega) ?_; intro w4 n4 ho4 hg4; have HO4 := hide ho4; have HB4 := hide (HB3.out.trans (below_grown hg4 HB3.out.size)); clear ho4 hg4)
    | (at_builtin; refine appS w4 rfl (.tmp 50) (.tmp 51) rfl w.heap.size C n4 _ pa rfl rfl HO4.out (by omega) (by have hn := HO4.out.len; simp only [List.length_append, List.length_cons, List.length_nil, L_len] at hn; omega) ?_; intro w5 n5 ho5 hg5; have HO5 := hide ho5; have HB5 := hide (HB4.out.trans (below_grown hg5 HB4.out.size)); clear ho5 hg5)
    | (at_builtin; refine app1 w5 rfl (.tmp 61) (.tmp 62) rfl w.heap.size C n5 _ [35] 1 #[.int .u8 35] rfl rfl rfl (by first | rfl | (rw [World.size_alloc]; rfl)) HO5.out (by have hn := HO5.out.len; simp only [List.length_append, List.length_cons, List.length_nil, L_len] at hn; omega) ?_; intro w6 n6 ho6 hg6; have HO6 := hide ho6; have HB6 := hide (HB5.out.trans (below_grown hg6 HB5.out.size)); clear ho6 hg6)
    | (at_builtin; refine appS w6 rfl (.tmp 64) (.tmp 65) rfl w.heap.size C n6 _ fr rfl rfl HO6.out (by omega) (by have hn := HO6.out.len; simp only [List.length_append, List.length_cons, List.length_nil, L_len] at hn; omega) ?_; intro w7 n7 ho7 hg7; have hcv := own_convert ho7; have HO7 := hide ho7; have HB7 := hide (HB6.out.trans (below_grown hg7 HB6.out.size)); clear ho7 hg7))
  rw [← HQ.out]
  refine ⟨?_, HB7.out⟩
  show Ending.returned (.string _) = .returned (.string _)
  congr 3
  simp [joinL]
set_option maxRecDepth 100000 in
set_option maxHeartbeats 4000000 in
theorem join_1110 (sc au pa qu fr : ByteArray) (w : World) (hs : (sc.size : Int) + au.size + pa.size + qu.size + fr.size ≤ 2097152) :
    Calls Tryd.prog 6 #[.string sc, .string au, .string pa, .string qu, .string fr, .bool true, .bool true, .bool true, .bool false] w fun e w' => e = .returned (.string (ofL (joinL (L sc) (L au) (L pa) (L qu) (L fr) true true true false))) ∧ Below w.heap.size w w' := by
  generalize hQ : (fun (e : Ending) (w' : World) => e = .returned (.string (ofL (joinL (L sc) (L au) (L pa) (L qu) (L fr) true true true false))) ∧ Below w.heap.size w w') = Q
  have HQ := hide hQ
  obtain ⟨C, hC⟩ : ∃ C : Nat, C = sc.size + au.size + pa.size + qu.size + fr.size + 5 := ⟨_, rfl⟩
  have hCI : (sc.size : Int) + au.size + pa.size + qu.size + fr.size + 5 = C := by omega
  obtain ⟨Z, hZ, hmk⟩ := run_make 0 C (Nat.zero_le _) (by omega) w
  have hO : OwnB w.heap.size C 0 [] (w.alloc (.cells Z 5)) := ⟨rfl, World.ownsRow_made w _ C (Nat.le_refl _) (by simp [maxLen]; omega) (by rw [hZ, Nat.mul_one])⟩
  have HO := hide hO
  have HB : Hid (Below w.heap.size w (w.alloc (.cells Z 5))) := hide ((Below.refl _ _).alloc (Nat.le_refl _) _)
  rw [← hCI] at hmk
  have hmk : (Instr.makeSlice 28 (.int .i64 0) (.int .i64 ((sc.size : Int) + au.size + pa.size + qu.size + fr.size + 5))).run Tryd.prog w = .ok (.slice (some ⟨w.heap.size, 0, none⟩) 0 C) (w.alloc (.cells Z 5)) := hmk
  have hC1 : sc.size + au.size + pa.size + qu.size + fr.size + 5 ≤ C := by omega
  clear hQ hO hZ hCI hC
  go_enter Tryd.func6, Tryd.ntmps6
  go_wp2_with (first
    | (at_builtin; refine appS (w.alloc (.cells Z 5)) rfl (.tmp 37) (.tmp 38) rfl w.heap.size C 0 _ sc rfl rfl HO.out (by omega) (by have hn := HO.out.len; simp only [List.length_append, List.length_cons, List.length_nil, L_len] at hn; omega) ?_; intro w1 n1 ho1 hg1; have HO1 := hide ho1; have HB1 := hide (HB.out.trans (below_grown hg1 HB.out.size)); clear ho1 hg1)
    | (at_builtin; refine app1 w1 rfl (.tmp 40) (.tmp 41) rfl w.heap.size C n1 _ [58] 1 #[.int .u8 58] rfl rfl rfl (by first | rfl | (rw [World.size_alloc]; rfl)) HO1.out (by have hn := HO1.out.len; simp only [List.length_append, List.length_cons, List.length_nil, L_len] at hn; omega) ?_; intro w2 n2 ho2 hg2; have HO2 := hide ho2; have HB2 := hide (HB1.out.trans (below_grown hg2 HB1.out.size)); clear ho2 hg2)
    | (at_builtin; refine app1 w2 rfl (.tmp 44) (.tmp 45) rfl w.heap.size C n2 _ [47, 47] 2 #[.int .u8 47, .int .u8 47] rfl rfl rfl (by first | rfl | (rw [World.size_alloc]; rfl)) HO2.out (by have hn := HO2.out.len; simp only [List.length_append, List.length_cons, List.length_nil, L_len] at hn; omega) ?_; intro w3 n3 ho3 hg3; have HO3 := hide ho3; have HB3 := hide (HB2.out.trans (below_grown hg3 HB2.out.size)); clear ho3 hg3)
    | (at_builtin; refine appS w3 rfl (.tmp 47) (.tmp 48) rfl w.heap.size C n3 _ au rfl rfl HO3.out (by omega) (by have hn := HO3.out.len; simp only [List.length_append, List.length_cons, List.length_nil, L_len] at hn; omega) ?_; intro w4 n4 ho4 hg4; have HO4 := hide ho4; have HB4 := hide (HB3.out.trans (below_grown hg4 HB3.out.size)); clear ho4 hg4)
    | (at_builtin; refine appS w4 rfl (.tmp 50) (.tmp 51) rfl w.heap.size C n4 _ pa rfl rfl HO4.out (by omega) (by have hn := HO4.out.len; simp only [List.length_append, List.length_cons, List.length_nil, L_len] at hn; omega) ?_; intro w5 n5 ho5 hg5; have HO5 := hide ho5; have HB5 := hide (HB4.out.trans (below_grown hg5 HB4.out.size)); clear ho5 hg5)
    | (at_builtin; refine app1 w5 rfl (.tmp 54) (.tmp 55) rfl w.heap.size C n5 _ [63] 1 #[.int .u8 63] rfl rfl rfl (by first | rfl | (rw [World.size_alloc]; rfl)) HO5.out (by have hn := HO5.out.len; simp only [List.length_append, List.length_cons, List.length_nil, L_len] at hn; omega) ?_; intro w6 n6 ho6 hg6; have HO6 := hide ho6; have HB6 := hide (HB5.out.trans (below_grown hg6 HB5.out.size)); clear ho6 hg6)
    | (at_builtin; refine appS w6 rfl (.tmp 57) (.tmp 58) rfl w.heap.size C n6 _ qu rfl rfl HO6.out (by omega) (by have hn := HO6.out.len; simp only [List.length_append, List.length_cons, List.length_nil, L_len] at hn; omega) ?_; intro w7 n7 ho7 hg7; have hcv := own_convert ho7; have HO7 := hide ho7; have HB7 := hide (HB6.out.trans (below_grown hg7 HB6.out.size)); clear ho7 hg7))
  rw [← HQ.out]
  refine ⟨?_, HB7.out⟩
  show Ending.returned (.string _) = .returned (.string _)
  congr 3
  simp [joinL]
set_option maxRecDepth 100000 in
set_option maxHeartbeats 4000000 in
theorem join_1111 (sc au pa qu fr : ByteArray) (w : World) (hs : (sc.size : Int) + au.size + pa.size + qu.size + fr.size ≤ 2097152) :
    Calls Tryd.prog 6 #[.string sc, .string au, .string pa, .string qu, .string fr, .bool true, .bool true, .bool true, .bool true] w fun e w' => e = .returned (.string (ofL (joinL (L sc) (L au) (L pa) (L qu) (L fr) true true true true))) ∧ Below w.heap.size w w' := by
  generalize hQ : (fun (e : Ending) (w' : World) => e = .returned (.string (ofL (joinL (L sc) (L au) (L pa) (L qu) (L fr) true true true true))) ∧ Below w.heap.size w w') = Q
  have HQ := hide hQ
  obtain ⟨C, hC⟩ : ∃ C : Nat, C = sc.size + au.size + pa.size + qu.size + fr.size + 5 := ⟨_, rfl⟩
  have hCI : (sc.size : Int) + au.size + pa.size + qu.size + fr.size + 5 = C := by omega
  obtain ⟨Z, hZ, hmk⟩ := run_make 0 C (Nat.zero_le _) (by omega) w
  have hO : OwnB w.heap.size C 0 [] (w.alloc (.cells Z 5)) := ⟨rfl, World.ownsRow_made w _ C (Nat.le_refl _) (by simp [maxLen]; omega) (by rw [hZ, Nat.mul_one])⟩
  have HO := hide hO
  have HB : Hid (Below w.heap.size w (w.alloc (.cells Z 5))) := hide ((Below.refl _ _).alloc (Nat.le_refl _) _)
  rw [← hCI] at hmk
  have hmk : (Instr.makeSlice 28 (.int .i64 0) (.int .i64 ((sc.size : Int) + au.size + pa.size + qu.size + fr.size + 5))).run Tryd.prog w = .ok (.slice (some ⟨w.heap.size, 0, none⟩) 0 C) (w.alloc (.cells Z 5)) := hmk
  have hC1 : sc.size + au.size + pa.size + qu.size + fr.size + 5 ≤ C := by omega
  clear hQ hO hZ hCI hC
  go_enter Tryd.func6, Tryd.ntmps6
  go_wp2_with (first
    | (at_builtin; refine appS (w.alloc (.cells Z 5)) rfl (.tmp 37) (.tmp 38) rfl w.heap.size C 0 _ sc rfl rfl HO.out (by omega) (by have hn := HO.out.len; simp only [List.length_append, List.length_cons, List.length_nil, L_len] at hn; omega) ?_; intro w1 n1 ho1 hg1; have HO1 := hide ho1; have HB1 := hide (HB.out.trans (below_grown hg1 HB.out.size)); clear ho1 hg1)
    | (at_builtin; refine app1 w1 rfl (.tmp 40) (.tmp 41) rfl w.heap.size C n1 _ [58] 1 #[.int .u8 58] rfl rfl rfl (by first | rfl | (rw [World.size_alloc]; rfl)) HO1.out (by have hn := HO1.out.len; simp only [List.length_append, List.length_cons, List.length_nil, L_len] at hn; omega) ?_; intro w2 n2 ho2 hg2; have HO2 := hide ho2; have HB2 := hide (HB1.out.trans (below_grown hg2 HB1.out.size)); clear ho2 hg2)
    | (at_builtin; refine app1 w2 rfl (.tmp 44) (.tmp 45) rfl w.heap.size C n2 _ [47, 47] 2 #[.int .u8 47, .int .u8 47] rfl rfl rfl (by first | rfl | (rw [World.size_alloc]; rfl)) HO2.out (by have hn := HO2.out.len; simp only [List.length_append, List.length_cons, List.length_nil, L_len] at hn; omega) ?_; intro w3 n3 ho3 hg3; have HO3 := hide ho3; have HB3 := hide (HB2.out.trans (below_grown hg3 HB2.out.size)); clear ho3 hg3)
    | (at_builtin; refine appS w3 rfl (.tmp 47) (.tmp 48) rfl w.heap.size C n3 _ au rfl rfl HO3.out (by omega) (by have hn := HO3.out.len; simp only [List.length_append, List.length_cons, List.length_nil, L_len] at hn; omega) ?_; intro w4 n4 ho4 hg4; have HO4 := hide ho4; have HB4 := hide (HB3.out.trans (below_grown hg4 HB3.out.size)); clear ho4 hg4)
    | (at_builtin; refine appS w4 rfl (.tmp 50) (.tmp 51) rfl w.heap.size C n4 _ pa rfl rfl HO4.out (by omega) (by have hn := HO4.out.len; simp only [List.length_append, List.length_cons, List.length_nil, L_len] at hn; omega) ?_; intro w5 n5 ho5 hg5; have HO5 := hide ho5; have HB5 := hide (HB4.out.trans (below_grown hg5 HB4.out.size)); clear ho5 hg5)
    | (at_builtin; refine app1 w5 rfl (.tmp 54) (.tmp 55) rfl w.heap.size C n5 _ [63] 1 #[.int .u8 63] rfl rfl rfl (by first | rfl | (rw [World.size_alloc]; rfl)) HO5.out (by have hn := HO5.out.len; simp only [List.length_append, List.length_cons, List.length_nil, L_len] at hn; omega) ?_; intro w6 n6 ho6 hg6; have HO6 := hide ho6; have HB6 := hide (HB5.out.trans (below_grown hg6 HB5.out.size)); clear ho6 hg6)
    | (at_builtin; refine appS w6 rfl (.tmp 57) (.tmp 58) rfl w.heap.size C n6 _ qu rfl rfl HO6.out (by omega) (by have hn := HO6.out.len; simp only [List.length_append, List.length_cons, List.length_nil, L_len] at hn; omega) ?_; intro w7 n7 ho7 hg7; have HO7 := hide ho7; have HB7 := hide (HB6.out.trans (below_grown hg7 HB6.out.size)); clear ho7 hg7)
    | (at_builtin; refine app1 w7 rfl (.tmp 61) (.tmp 62) rfl w.heap.size C n7 _ [35] 1 #[.int .u8 35] rfl rfl rfl (by first | rfl | (rw [World.size_alloc]; rfl)) HO7.out (by have hn := HO7.out.len; simp only [List.length_append, List.length_cons, List.length_nil, L_len] at hn; omega) ?_; intro w8 n8 ho8 hg8; have HO8 := hide ho8; have HB8 := hide (HB7.out.trans (below_grown hg8 HB7.out.size)); clear ho8 hg8)
    | (at_builtin; refine appS w8 rfl (.tmp 64) (.tmp 65) rfl w.heap.size C n8 _ fr rfl rfl HO8.out (by omega) (by have hn := HO8.out.len; simp only [List.length_append, List.length_cons, List.length_nil, L_len] at hn; omega) ?_; intro w9 n9 ho9 hg9; have hcv := own_convert ho9; have HO9 := hide ho9; have HB9 := hide (HB8.out.trans (below_grown hg9 HB8.out.size)); clear ho9 hg9))
  rw [← HQ.out]
  refine ⟨?_, HB9.out⟩
  show Ending.returned (.string _) = .returned (.string _)
  congr 3
  simp [joinL]
theorem join6 (sc au pa qu fr : ByteArray) (b1 b2 b3 b4 : Bool) (w : World) (hs : (sc.size : Int) + au.size + pa.size + qu.size + fr.size ≤ 2097152) :
    Calls Tryd.prog 6 #[.string sc, .string au, .string pa, .string qu, .string fr, .bool b1, .bool b2, .bool b3, .bool b4] w fun e w' => e = .returned (.string (ofL (joinL (L sc) (L au) (L pa) (L qu) (L fr) b1 b2 b3 b4))) ∧ Below w.heap.size w w' := by
  cases b1 <;> cases b2 <;> cases b3 <;> cases b4
  · exact join_0000 sc au pa qu fr w hs
  · exact join_0001 sc au pa qu fr w hs
  · exact join_0010 sc au pa qu fr w hs
  · exact join_0011 sc au pa qu fr w hs
  · exact join_0100 sc au pa qu fr w hs
  · exact join_0101 sc au pa qu fr w hs
  · exact join_0110 sc au pa qu fr w hs
  · exact join_0111 sc au pa qu fr w hs
  · exact join_1000 sc au pa qu fr w hs
  · exact join_1001 sc au pa qu fr w hs
  · exact join_1010 sc au pa qu fr w hs
  · exact join_1011 sc au pa qu fr w hs
  · exact join_1100 sc au pa qu fr w hs
  · exact join_1101 sc au pa qu fr w hs
  · exact join_1110 sc au pa qu fr w hs
  · exact join_1111 sc au pa qu fr w hs
end Go.Proofs.Qxb6614616aDoor
