/-
  (reference).String, walked: the Builder.
-/
import Derived.Test.Qxb6614616aDoorJ1
namespace Go.Proofs.Qxb6614616aDoor
open Go.RowKit
set_option linter.unusedSimpArgs false
/-- The reference's box lies at B0, the Builder behind it, holding l. -/
structure St (w : World) (B0 : Nat) (vs : Array Value) (l : List UInt8) (W : World) : Prop where
  bld : Lib.IsBuilder 46 5 (B0 + 1) (B0 + 1) (Lib.byteCells l) W
  below : Below B0 w W
  size : B0 + 1 ≤ W.heap.size
  cell : ∀ i, W.cell? ⟨B0, i, none⟩ = vs[i]?
theorem st0 (w : World) (vs : Array Value) : St w w.heap.size vs [] ((w.alloc (.cells vs 31)).alloc (.cells #[.pointer none, .slice none 0 0] 46)) := by
  refine ⟨?_, ((Below.refl _ _).alloc (Nat.le_refl _) _).alloc (by simp) _, by simp, fun i => ?_⟩
  · have := Lib.fresh_isBuilder 46 5 (w.alloc (.cells vs 31))
    rw [World.size_alloc] at this
    exact this
  · rw [World.cell?_alloc_past _ _ _ (by simp), World.cell?_alloc_at _ _ _ _ rfl]
theorem St.next {w : World} {B0 : Nat} {vs : Array Value} {l l' : List UInt8} {W W' : World} (h : St w B0 vs l W) (hb : Below (B0 + 1) W W') (hl : Lib.BuilderAt 46 5 (B0 + 1) (B0 + 1) (.pointer (some ⟨B0 + 1, 0, none⟩)) (Lib.byteCells l') W') : St w B0 vs l' W' :=
  ⟨.inr hl, h.below.trans (hb.mono (Nat.le_succ _)), Nat.le_trans h.size hb.size, fun i => (hb.cell (p := ⟨B0, i, none⟩) (Nat.lt_succ_self _)).trans (h.cell i)⟩
theorem bytes_app (l : List UInt8) (s : ByteArray) : Lib.byteCells l ++ Lib.strCells s = Lib.byteCells (l ++ L s) := by
  unfold Lib.byteCells Lib.strCells
  rw [List.map_append]
theorem wS {w : World} {B0 : Nat} {vs : Array Value} {l : List UInt8} {W : World} (h : St w B0 vs l W) (s : ByteArray) (hl : l.length + s.size ≤ 4194304) :
    Calls Tryd.prog 22 #[.pointer (some ⟨B0 + 1, 0, none⟩), .string s] W fun e W' => e = .returned (.tuple #[.int .i64 s.size, .nilIface]) ∧ St w B0 vs (l ++ L s) W' := by
  refine (Tryd.Builder_WriteString (B0 + 1) (B0 + 1) _ s W h.bld (by unfold Lib.byteCells; rw [List.length_map]; omega) h.size).mono ?_
  rintro e W' ⟨rfl, h1, h2⟩
  rw [bytes_app] at h1
  exact ⟨rfl, h.next h2 h1⟩
theorem wB {w : World} {B0 : Nat} {vs : Array Value} {l : List UInt8} {W : World} (h : St w B0 vs l W) (c : UInt8) (z : Int) (hz : z = c.toNat) (hl : l.length ≤ 4194304) :
    Calls Tryd.prog 23 #[.pointer (some ⟨B0 + 1, 0, none⟩), .int .u8 z] W fun e W' => e = .returned .nilIface ∧ St w B0 vs (l ++ [c]) W' := by
  subst hz
  refine (Tryd.Builder_WriteByte (B0 + 1) (B0 + 1) _ _ W h.bld (by unfold Lib.byteCells; rw [List.length_map]; omega) h.size).mono ?_
  rintro e W' ⟨rfl, h1, h2⟩
  have e1 : Lib.byteCells l ++ [Value.int .u8 (c.toNat : Int)] = Lib.byteCells (l ++ [c]) := by
    unfold Lib.byteCells
    rw [List.map_append]
    rfl
  rw [e1] at h1
  exact ⟨rfl, h.next h2 h1⟩
theorem wE {w : World} {B0 : Nat} {vs : Array Value} {l : List UInt8} {W : World} (h : St w B0 vs l W) :
    Calls Tryd.prog 24 #[.pointer (some ⟨B0 + 1, 0, none⟩)] W fun e W' => e = .returned (.string (ofL l)) ∧ Below B0 w W' := by
  refine (Tryd.Builder_String_any (B0 + 1) (B0 + 1) l W h.bld h.size).mono ?_
  rintro e W' ⟨rfl, h2⟩
  exact ⟨rfl, h.below.trans (h2.mono (Nat.le_succ _))⟩
set_option maxRecDepth 100000 in
set_option maxHeartbeats 4000000 in
theorem str_0000 (sc au pa qu fr : ByteArray) (w : World) (hs : (sc.size : Int) + au.size + pa.size + qu.size + fr.size ≤ 2097152) :
    Calls Tryd.prog 18 #[.agg #[.string sc, .string au, .string pa, .string qu, .string fr, .bool false, .bool false, .bool false, .bool false]] w fun e w' => e = .returned (.string (ofL (joinL (L sc) (L au) (L pa) (L qu) (L fr) false false false false))) ∧ Below w.heap.size w w' := by
  generalize hQ : (fun (e : Ending) (w' : World) => e = .returned (.string (ofL (joinL (L sc) (L au) (L pa) (L qu) (L fr) false false false false))) ∧ Below w.heap.size w w') = Q
  have HQ := hide hQ
  clear hQ
  go_enter Tryd.func18, Tryd.ntmps18
  go_wp2_with fail
  have H0 := hide (st0 w #[.string sc, .string au, .string pa, .string qu, .string fr, .bool false, .bool false, .bool false, .bool false])
  refine (wS H0.out pa (by simp only [List.length_append, List.length_cons, List.length_nil, L_len]; omega)).mono ?_
  rintro e w1 ⟨rfl, hst⟩
  have H1 := hide hst
  have c1 := hst.cell 1; have c2 := hst.cell 2; have c3 := hst.cell 3; have c4 := hst.cell 4; have c6 := hst.cell 6; have c7 := hst.cell 7; have c8 := hst.cell 8
  simp at c1 c2 c3 c4 c6 c7 c8
  clear hst
  go_wp2_with fail
  clear c1 c2 c3 c4 c6 c7 c8
  refine (wE H1.out).mono ?_
  rintro e w' ⟨rfl, hb⟩
  have HB := hide hb
  clear hb
  go_wp2_with fail
  rw [← HQ.out]
  refine ⟨?_, HB.out⟩
  show Ending.returned (.string _) = .returned (.string _)
  congr 3
  simp [joinL, L]
set_option maxRecDepth 100000 in
set_option maxHeartbeats 4000000 in
theorem str_0001 (sc au pa qu fr : ByteArray) (w : World) (hs : (sc.size : Int) + au.size + pa.size + qu.size + fr.size ≤ 2097152) :
    Calls Tryd.prog 18 #[.agg #[.string sc, .string au, .string pa, .string qu, .string fr, .bool false, .bool false, .bool false, .bool true]] w fun e w' => e = .returned (.string (ofL (joinL (L sc) (L au) (L pa) (L qu) (L fr) false false false true))) ∧ Below w.heap.size w w' := by
  generalize hQ : (fun (e : Ending) (w' : World) => e = .returned (.string (ofL (joinL (L sc) (L au) (L pa) (L qu) (L fr) false false false true))) ∧ Below w.heap.size w w') = Q
  have HQ := hide hQ
  clear hQ
  go_enter Tryd.func18, Tryd.ntmps18
  go_wp2_with fail
  have H0 := hide (st0 w #[.string sc, .string au, .string pa, .string qu, .string fr, .bool false, .bool false, .bool false, .bool true])
  refine (wS H0.out pa (by simp only [List.length_append, List.length_cons, List.length_nil, L_len]; omega)).mono ?_
  rintro e w1 ⟨rfl, hst⟩
  have H1 := hide hst
  have c1 := hst.cell 1; have c2 := hst.cell 2; have c3 := hst.cell 3; have c4 := hst.cell 4; have c6 := hst.cell 6; have c7 := hst.cell 7; have c8 := hst.cell 8
  simp at c1 c2 c3 c4 c6 c7 c8
  clear hst
  go_wp2_with fail
  clear c1 c2 c3 c4 c6 c7 c8
  refine (wB H1.out 35 _ rfl (by simp only [List.length_append, List.length_cons, List.length_nil, L_len]; omega)).mono ?_
  rintro e w2 ⟨rfl, hst⟩
  have H2 := hide hst
  have c1 := hst.cell 1; have c2 := hst.cell 2; have c3 := hst.cell 3; have c4 := hst.cell 4; have c6 := hst.cell 6; have c7 := hst.cell 7; have c8 := hst.cell 8
  simp at c1 c2 c3 c4 c6 c7 c8
  clear hst
  go_wp2_with fail
  clear c1 c2 c3 c4 c6 c7 c8
  refine (wS H2.out fr (by simp only [List.length_append, List.length_cons, List.length_nil, L_len]; omega)).mono ?_
  rintro e w3 ⟨rfl, hst⟩
  have H3 := hide hst
  have c1 := hst.cell 1; have c2 := hst.cell 2; have c3 := hst.cell 3; have c4 := hst.cell 4; have c6 := hst.cell 6; have c7 := hst.cell 7; have c8 := hst.cell 8
  simp at c1 c2 c3 c4 c6 c7 c8
  clear hst
  go_wp2_with fail
  clear c1 c2 c3 c4 c6 c7 c8
  refine (wE H3.out).mono ?_
  rintro e w' ⟨rfl, hb⟩
  have HB := hide hb
  clear hb
  go_wp2_with fail
  rw [← HQ.out]
  refine ⟨?_, HB.out⟩
  show Ending.returned (.string _) = .returned (.string _)
  congr 3
  simp [joinL, L]
set_option maxRecDepth 100000 in
set_option maxHeartbeats 4000000 in
theorem str_0010 (sc au pa qu fr : ByteArray) (w : World) (hs : (sc.size : Int) + au.size + pa.size + qu.size + fr.size ≤ 2097152) :
    Calls Tryd.prog 18 #[.agg #[.string sc, .string au, .string pa, .string qu, .string fr, .bool false, .bool false, .bool true, .bool false]] w fun e w' => e = .returned (.string (ofL (joinL (L sc) (L au) (L pa) (L qu) (L fr) false false true false))) ∧ Below w.heap.size w w' := by
  generalize hQ : (fun (e : Ending) (w' : World) => e = .returned (.string (ofL (joinL (L sc) (L au) (L pa) (L qu) (L fr) false false true false))) ∧ Below w.heap.size w w') = Q
  have HQ := hide hQ
  clear hQ
  go_enter Tryd.func18, Tryd.ntmps18
  go_wp2_with fail
  have H0 := hide (st0 w #[.string sc, .string au, .string pa, .string qu, .string fr, .bool false, .bool false, .bool true, .bool false])
  refine (wS H0.out pa (by simp only [List.length_append, List.length_cons, List.length_nil, L_len]; omega)).mono ?_
  rintro e w1 ⟨rfl, hst⟩
  have H1 := hide hst
  have c1 := hst.cell 1; have c2 := hst.cell 2; have c3 := hst.cell 3; have c4 := hst.cell 4; have c6 := hst.cell 6; have c7 := hst.cell 7; have c8 := hst.cell 8
  simp at c1 c2 c3 c4 c6 c7 c8
  clear hst
  go_wp2_with fail
  clear c1 c2 c3 c4 c6 c7 c8
  refine (wB H1.out 63 _ rfl (by simp only [List.length_append, List.length_cons, List.length_nil, L_len]; omega)).mono ?_
  rintro e w2 ⟨rfl, hst⟩
  have H2 := hide hst
  have c1 := hst.cell 1; have c2 := hst.cell 2; have c3 := hst.cell 3; have c4 := hst.cell 4; have c6 := hst.cell 6; have c7 := hst.cell 7; have c8 := hst.cell 8
  simp at c1 c2 c3 c4 c6 c7 c8
  clear hst
  go_wp2_with fail
  clear c1 c2 c3 c4 c6 c7 c8
  refine (wS H2.out qu (by simp only [List.length_append, List.length_cons, List.length_nil, L_len]; omega)).mono ?_
  rintro e w3 ⟨rfl, hst⟩
  have H3 := hide hst
  have c1 := hst.cell 1; have c2 := hst.cell 2; have c3 := hst.cell 3; have c4 := hst.cell 4; have c6 := hst.cell 6; have c7 := hst.cell 7; have c8 := hst.cell 8
  simp at c1 c2 c3 c4 c6 c7 c8
  clear hst
  go_wp2_with fail
  clear c1 c2 c3 c4 c6 c7 c8
  refine (wE H3.out).mono ?_
  rintro e w' ⟨rfl, hb⟩
  have HB := hide hb
  clear hb
  go_wp2_with fail
  rw [← HQ.out]
  refine ⟨?_, HB.out⟩
  show Ending.returned (.string _) = .returned (.string _)
  congr 3
  simp [joinL, L]
set_option maxRecDepth 100000 in
set_option maxHeartbeats 4000000 in
theorem str_0011 (sc au pa qu fr : ByteArray) (w : World) (hs : (sc.size : Int) + au.size + pa.size + qu.size + fr.size ≤ 2097152) :
    Calls Tryd.prog 18 #[.agg #[.string sc, .string au, .string pa, .string qu, .string fr, .bool false, .bool false, .bool true, .bool true]] w fun e w' => e = .returned (.string (ofL (joinL (L sc) (L au) (L pa) (L qu) (L fr) false false true true))) ∧ Below w.heap.size w w' := by
  generalize hQ : (fun (e : Ending) (w' : World) => e = .returned (.string (ofL (joinL (L sc) (L au) (L pa) (L qu) (L fr) false false true true))) ∧ Below w.heap.size w w') = Q
  have HQ := hide hQ
  clear hQ
  go_enter Tryd.func18, Tryd.ntmps18
  go_wp2_with fail
  have H0 := hide (st0 w #[.string sc, .string au, .string pa, .string qu, .string fr, .bool false, .bool false, .bool true, .bool true])
  refine (wS H0.out pa (by simp only [List.length_append, List.length_cons, List.length_nil, L_len]; omega)).mono ?_
  rintro e w1 ⟨rfl, hst⟩
  have H1 := hide hst
  have c1 := hst.cell 1; have c2 := hst.cell 2; have c3 := hst.cell 3; have c4 := hst.cell 4; have c6 := hst.cell 6; have c7 := hst.cell 7; have c8 := hst.cell 8
  simp at c1 c2 c3 c4 c6 c7 c8
  clear hst
  go_wp2_with fail
  clear c1 c2 c3 c4 c6 c7 c8
  refine (wB H1.out 63 _ rfl (by simp only [List.length_append, List.length_cons, List.length_nil, L_len]; omega)).mono ?_
  rintro e w2 ⟨rfl, hst⟩
  have H2 := hide hst
  have c1 := hst.cell 1; have c2 := hst.cell 2; have c3 := hst.cell 3; have c4 := hst.cell 4; have c6 := hst.cell 6; have c7 := hst.cell 7; have c8 := hst.cell 8
  simp at c1 c2 c3 c4 c6 c7 c8
  clear hst
  go_wp2_with fail
  clear c1 c2 c3 c4 c6 c7 c8
  refine (wS H2.out qu (by simp only [List.length_append, List.length_cons, List.length_nil, L_len]; omega)).mono ?_
  rintro e w3 ⟨rfl, hst⟩
  have H3 := hide hst
  have c1 := hst.cell 1; have c2 := hst.cell 2; have c3 := hst.cell 3; have c4 := hst.cell 4; have c6 := hst.cell 6; have c7 := hst.cell 7; have c8 := hst.cell 8
  simp at c1 c2 c3 c4 c6 c7 c8
  clear hst
  go_wp2_with fail
  clear c1 c2 c3 c4 c6 c7 c8
  refine (wB H3.out 35 _ rfl (by simp only [List.length_append, List.length_cons, List.length_nil, L_len]; omega)).mono ?_
  rintro e w4 ⟨rfl, hst⟩
  have H4 := hide hst
  have c1 := hst.cell 1; have c2 := hst.cell 2; have c3 := hst.cell 3; have c4 := hst.cell 4; have c6 := hst.cell 6; have c7 := hst.cell 7; have c8 := hst.cell 8
  simp at c1 c2 c3 c4 c6 c7 c8
  clear hst
  go_wp2_with fail
  clear c1 c2 c3 c4 c6 c7 c8
  refine (wS H4.out fr (by simp only [List.length_append, List.length_cons, List.length_nil, L_len]; omega)).mono ?_
  rintro e w5 ⟨rfl, hst⟩
  have H5 := hide hst
  have c1 := hst.cell 1; have c2 := hst.cell 2; have c3 := hst.cell 3; have c4 := hst.cell 4; have c6 := hst.cell 6; have c7 := hst.cell 7; have c8 := hst.cell 8
  simp at c1 c2 c3 c4 c6 c7 c8
  clear hst
  go_wp2_with fail
  clear c1 c2 c3 c4 c6 c7 c8
  refine (wE H5.out).mono ?_
  rintro e w' ⟨rfl, hb⟩
  have HB := hide hb
  clear hb
  go_wp2_with fail
  rw [← HQ.out]
  refine ⟨?_, HB.out⟩
  show Ending.returned (.string _) = .returned (.string _)
  congr 3
  simp [joinL, L]
set_option maxRecDepth 100000 in
set_option maxHeartbeats 4000000 in
theorem str_0100 (sc au pa qu fr : ByteArray) (w : World) (hs : (sc.size : Int) + au.size + pa.size + qu.size + fr.size ≤ 2097152) :
    Calls Tryd.prog 18 #[.agg #[.string sc, .string au, .string pa, .string qu, .string fr, .bool false, .bool true, .bool false, .bool false]] w fun e w' => e = .returned (.string (ofL (joinL (L sc) (L au) (L pa) (L qu) (L fr) false true false false))) ∧ Below w.heap.size w w' := by
  generalize hQ : (fun (e : Ending) (w' : World) => e = .returned (.string (ofL (joinL (L sc) (L au) (L pa) (L qu) (L fr) false true false false))) ∧ Below w.heap.size w w') = Q
  have HQ := hide hQ
  clear hQ
  go_enter Tryd.func18, Tryd.ntmps18
  go_wp2_with fail
  have H0 := hide (st0 w #[.string sc, .string au, .string pa, .string qu, .string fr, .bool false, .bool true, .bool false, .bool false])
  refine (wS H0.out ⟨#[47, 47]⟩ (by simp only [List.length_append, List.length_cons, List.length_nil, L_len]; have h47 : (ByteArray.mk #[47, 47]).size = 2 := rfl; omega)).mono ?_
  rintro e w1 ⟨rfl, hst⟩
  have H1 := hide hst
  have c1 := hst.cell 1; have c2 := hst.cell 2; have c3 := hst.cell 3; have c4 := hst.cell 4; have c6 := hst.cell 6; have c7 := hst.cell 7; have c8 := hst.cell 8
  simp at c1 c2 c3 c4 c6 c7 c8
  clear hst
  go_wp2_with fail
  clear c1 c2 c3 c4 c6 c7 c8
  refine (wS H1.out au (by simp only [List.length_append, List.length_cons, List.length_nil, L_len]; have h47 : (ByteArray.mk #[47, 47]).size = 2 := rfl; omega)).mono ?_
  rintro e w2 ⟨rfl, hst⟩
  have H2 := hide hst
  have c1 := hst.cell 1; have c2 := hst.cell 2; have c3 := hst.cell 3; have c4 := hst.cell 4; have c6 := hst.cell 6; have c7 := hst.cell 7; have c8 := hst.cell 8
  simp at c1 c2 c3 c4 c6 c7 c8
  clear hst
  go_wp2_with fail
  clear c1 c2 c3 c4 c6 c7 c8
  refine (wS H2.out pa (by simp only [List.length_append, List.length_cons, List.length_nil, L_len]; have h47 : (ByteArray.mk #[47, 47]).size = 2 := rfl; omega)).mono ?_
  rintro e w3 ⟨rfl, hst⟩
  have H3 := hide hst
  have c1 := hst.cell 1; have c2 := hst.cell 2; have c3 := hst.cell 3; have c4 := hst.cell 4; have c6 := hst.cell 6; have c7 := hst.cell 7; have c8 := hst.cell 8
  simp at c1 c2 c3 c4 c6 c7 c8
  clear hst
  go_wp2_with fail
  clear c1 c2 c3 c4 c6 c7 c8
  refine (wE H3.out).mono ?_
  rintro e w' ⟨rfl, hb⟩
  have HB := hide hb
  clear hb
  go_wp2_with fail
  rw [← HQ.out]
  refine ⟨?_, HB.out⟩
  show Ending.returned (.string _) = .returned (.string _)
  congr 3
  simp [joinL, L]
set_option maxRecDepth 100000 in
set_option maxHeartbeats 4000000 in
theorem str_0101 (sc au pa qu fr : ByteArray) (w : World) (hs : (sc.size : Int) + au.size + pa.size + qu.size + fr.size ≤ 2097152) :
    Calls Tryd.prog 18 #[.agg #[.string sc, .string au, .string pa, .string qu, .string fr, .bool false, .bool true, .bool false, .bool true]] w fun e w' => e = .returned (.string (ofL (joinL (L sc) (L au) (L pa) (L qu) (L fr) false true false true))) ∧ Below w.heap.size w w' := by
  generalize hQ : (fun (e : Ending) (w' : World) => e = .returned (.string (ofL (joinL (L sc) (L au) (L pa) (L qu) (L fr) false true false true))) ∧ Below w.heap.size w w') = Q
  have HQ := hide hQ
  clear hQ
  go_enter Tryd.func18, Tryd.ntmps18
  go_wp2_with fail
  have H0 := hide (st0 w #[.string sc, .string au, .string pa, .string qu, .string fr, .bool false, .bool true, .bool false, .bool true])
  refine (wS H0.out ⟨#[47, 47]⟩ (by simp only [List.length_append, List.length_cons, List.length_nil, L_len]; have h47 : (ByteArray.mk #[47, 47]).size = 2 := rfl; omega)).mono ?_
  rintro e w1 ⟨rfl, hst⟩
  have H1 := hide hst
  have c1 := hst.cell 1; have c2 := hst.cell 2; have c3 := hst.cell 3; have c4 := hst.cell 4; have c6 := hst.cell 6; have c7 := hst.cell 7; have c8 := hst.cell 8
  simp at c1 c2 c3 c4 c6 c7 c8
  clear hst
  go_wp2_with fail
  clear c1 c2 c3 c4 c6 c7 c8
  refine (wS H1.out au (by simp only [List.length_append, List.length_cons, List.length_nil, L_len]; have h47 : (ByteArray.mk #[47, 47]).size = 2 := rfl; omega)).mono ?_
  rintro e w2 ⟨rfl, hst⟩
  have H2 := hide hst
  have c1 := hst.cell 1; have c2 := hst.cell 2; have c3 := hst.cell 3; have c4 := hst.cell 4; have c6 := hst.cell 6; have c7 := hst.cell 7; have c8 := hst.cell 8
  simp at c1 c2 c3 c4 c6 c7 c8
  clear hst
  go_wp2_with fail
  clear c1 c2 c3 c4 c6 c7 c8
  refine (wS H2.out pa (by simp only [List.length_append, List.length_cons, List.length_nil, L_len]; have h47 : (ByteArray.mk #[47, 47]).size = 2 := rfl; omega)).mono ?_
  rintro e w3 ⟨rfl, hst⟩
  have H3 := hide hst
  have c1 := hst.cell 1; have c2 := hst.cell 2; have c3 := hst.cell 3; have c4 := hst.cell 4; have c6 := hst.cell 6; have c7 := hst.cell 7; have c8 := hst.cell 8
  simp at c1 c2 c3 c4 c6 c7 c8
  clear hst
  go_wp2_with fail
  clear c1 c2 c3 c4 c6 c7 c8
  refine (wB H3.out 35 _ rfl (by simp only [List.length_append, List.length_cons, List.length_nil, L_len]; have h47 : (ByteArray.mk #[47, 47]).size = 2 := rfl; omega)).mono ?_
  rintro e w4 ⟨rfl, hst⟩
  have H4 := hide hst
  have c1 := hst.cell 1; have c2 := hst.cell 2; have c3 := hst.cell 3; have c4 := hst.cell 4; have c6 := hst.cell 6; have c7 := hst.cell 7; have c8 := hst.cell 8
  simp at c1 c2 c3 c4 c6 c7 c8
  clear hst
  go_wp2_with fail
  clear c1 c2 c3 c4 c6 c7 c8
  refine (wS H4.out fr (by simp only [List.length_append, List.length_cons, List.length_nil, L_len]; have h47 : (ByteArray.mk #[47, 47]).size = 2 := rfl; omega)).mono ?_
  rintro e w5 ⟨rfl, hst⟩
  have H5 := hide hst
  have c1 := hst.cell 1; have c2 := hst.cell 2; have c3 := hst.cell 3; have c4 := hst.cell 4; have c6 := hst.cell 6; have c7 := hst.cell 7; have c8 := hst.cell 8
  simp at c1 c2 c3 c4 c6 c7 c8
  clear hst
  go_wp2_with fail
  clear c1 c2 c3 c4 c6 c7 c8
  refine (wE H5.out).mono ?_
  rintro e w' ⟨rfl, hb⟩
  have HB := hide hb
  clear hb
  go_wp2_with fail
  rw [← HQ.out]
  refine ⟨?_, HB.out⟩
  show Ending.returned (.string _) = .returned (.string _)
  congr 3
  simp [joinL, L]
set_option maxRecDepth 100000 in
set_option maxHeartbeats 4000000 in
theorem str_0110 (sc au pa qu fr : ByteArray) (w : World) (hs : (sc.size : Int) + au.size + pa.size + qu.size + fr.size ≤ 2097152) :
    Calls Tryd.prog 18 #[.agg #[.string sc, .string au, .string pa, .string qu, .string fr, .bool false, .bool true, .bool true, .bool false]] w fun e w' => e = .returned (.string (ofL (joinL (L sc) (L au) (L pa) (L qu) (L fr) false true true false))) ∧ Below w.heap.size w w' := by
  generalize hQ : (fun (e : Ending) (w' : World) => e = .returned (.string (ofL (joinL (L sc) (L au) (L pa) (L qu) (L fr) false true true false))) ∧ Below w.heap.size w w') = Q
  have HQ := hide hQ
  clear hQ
  go_enter Tryd.func18, Tryd.ntmps18
  go_wp2_with fail
  have H0 := hide (st0 w #[.string sc, .string au, .string pa, .string qu, .string fr, .bool false, .bool true, .bool true, .bool false])
  refine (wS H0.out ⟨#[47, 47]⟩ (by simp only [List.length_append, List.length_cons, List.length_nil, L_len]; have h47 : (ByteArray.mk #[47, 47]).size = 2 := rfl; omega)).mono ?_
  rintro e w1 ⟨rfl, hst⟩
  have H1 := hide hst
  have c1 := hst.cell 1; have c2 := hst.cell 2; have c3 := hst.cell 3; have c4 := hst.cell 4; have c6 := hst.cell 6; have c7 := hst.cell 7; have c8 := hst.cell 8
  simp at c1 c2 c3 c4 c6 c7 c8
  clear hst
  go_wp2_with fail
  clear c1 c2 c3 c4 c6 c7 c8
  refine (wS H1.out au (by simp only [List.length_append, List.length_cons, List.length_nil, L_len]; have h47 : (ByteArray.mk #[47, 47]).size = 2 := rfl; omega)).mono ?_
  rintro e w2 ⟨rfl, hst⟩
  have H2 := hide hst
  have c1 := hst.cell 1; have c2 := hst.cell 2; have c3 := hst.cell 3; have c4 := hst.cell 4; have c6 := hst.cell 6; have c7 := hst.cell 7; have c8 := hst.cell 8
  simp at c1 c2 c3 c4 c6 c7 c8
  clear hst
  go_wp2_with fail
  clear c1 c2 c3 c4 c6 c7 c8
  refine (wS H2.out pa (by simp only [List.length_append, List.length_cons, List.length_nil, L_len]; have h47 : (ByteArray.mk #[47, 47]).size = 2 := rfl; omega)).mono ?_
  rintro e w3 ⟨rfl, hst⟩
  have H3 := hide hst
  have c1 := hst.cell 1; have c2 := hst.cell 2; have c3 := hst.cell 3; have c4 := hst.cell 4; have c6 := hst.cell 6; have c7 := hst.cell 7; have c8 := hst.cell 8
  simp at c1 c2 c3 c4 c6 c7 c8
  clear hst
  go_wp2_with fail
  clear c1 c2 c3 c4 c6 c7 c8
  refine (wB H3.out 63 _ rfl (by simp only [List.length_append, List.length_cons, List.length_nil, L_len]; have h47 : (ByteArray.mk #[47, 47]).size = 2 := rfl; omega)).mono ?_
  rintro e w4 ⟨rfl, hst⟩
  have H4 := hide hst
  have c1 := hst.cell 1; have c2 := hst.cell 2; have c3 := hst.cell 3; have c4 := hst.cell 4; have c6 := hst.cell 6; have c7 := hst.cell 7; have c8 := hst.cell 8
  simp at c1 c2 c3 c4 c6 c7 c8
  clear hst
  go_wp2_with fail
  clear c1 c2 c3 c4 c6 c7 c8
  refine (wS H4.out qu (by simp only [List.length_append, List.length_cons, List.length_nil, L_len]; have h47 : (ByteArray.mk #[47, 47]).size = 2 := rfl; omega)).mono ?_
  rintro e w5 ⟨rfl, hst⟩
  have H5 := hide hst
  have c1 := hst.cell 1; have c2 := hst.cell 2; have c3 := hst.cell 3; have c4 := hst.cell 4; have c6 := hst.cell 6; have c7 := hst.cell 7; have c8 := hst.cell 8
  simp at c1 c2 c3 c4 c6 c7 c8
  clear hst
  go_wp2_with fail
  clear c1 c2 c3 c4 c6 c7 c8
  refine (wE H5.out).mono ?_
  rintro e w' ⟨rfl, hb⟩
  have HB := hide hb
  clear hb
  go_wp2_with fail
  rw [← HQ.out]
  refine ⟨?_, HB.out⟩
  show Ending.returned (.string _) = .returned (.string _)
  congr 3
  simp [joinL, L]
set_option maxRecDepth 100000 in
set_option maxHeartbeats 4000000 in
theorem str_0111 (sc au pa qu fr : ByteArray) (w : World) (hs : (sc.size : Int) + au.size + pa.size + qu.size + fr.size ≤ 2097152) :
    Calls Tryd.prog 18 #[.agg #[.string sc, .string au, .string pa, .string qu, .string fr, .bool false, .bool true, .bool true, .bool true]] w fun e w' => e = .returned (.string (ofL (joinL (L sc) (L au) (L pa) (L qu) (L fr) false true true true))) ∧ Below w.heap.size w w' := by
  generalize hQ : (fun (e : Ending) (w' : World) => e = .returned (.string (ofL (joinL (L sc) (L au) (L pa) (L qu) (L fr) false true true true))) ∧ Below w.heap.size w w') = Q
  have HQ := hide hQ
  clear hQ
  go_enter Tryd.func18, Tryd.ntmps18
  go_wp2_with fail
  have H0 := hide (st0 w #[.string sc, .string au, .string pa, .string qu, .string fr, .bool false, .bool true, .bool true, .bool true])
  refine (wS H0.out ⟨#[47, 47]⟩ (by simp only [List.length_append, List.length_cons, List.length_nil, L_len]; have h47 : (ByteArray.mk #[47, 47]).size = 2 := rfl; omega)).mono ?_
  rintro e w1 ⟨rfl, hst⟩
  have H1 := hide hst
  have c1 := hst.cell 1; have c2 := hst.cell 2; have c3 := hst.cell 3; have c4 := hst.cell 4; have c6 := hst.cell 6; have c7 := hst.cell 7; have c8 := hst.cell 8
  simp at c1 c2 c3 c4 c6 c7 c8
  clear hst
  go_wp2_with fail
  clear c1 c2 c3 c4 c6 c7 c8
  refine (wS H1.out au (by simp only [List.length_append, List.length_cons, List.length_nil, L_len]; have h47 : (ByteArray.mk #[47, 47]).size = 2 := rfl; omega)).mono ?_
  rintro e w2 ⟨rfl, hst⟩
  have H2 := hide hst
  have c1 := hst.cell 1; have c2 := hst.cell 2; have c3 := hst.cell 3; have c4 := hst.cell 4; have c6 := hst.cell 6; have c7 := hst.cell 7; have c8 := hst.cell 8
  simp at c1 c2 c3 c4 c6 c7 c8
  clear hst
  go_wp2_with fail
  clear c1 c2 c3 c4 c6 c7 c8
  refine (wS H2.out pa (by simp only [List.length_append, List.length_cons, List.length_nil, L_len]; have h47 : (ByteArray.mk #[47, 47]).size = 2 := rfl; omega)).mono ?_
  rintro e w3 ⟨rfl, hst⟩
  have H3 := hide hst
  have c1 := hst.cell 1; have c2 := hst.cell 2; have c3 := hst.cell 3; have c4 := hst.cell 4; have c6 := hst.cell 6; have c7 := hst.cell 7; have c8 := hst.cell 8
  simp at c1 c2 c3 c4 c6 c7 c8
  clear hst
  go_wp2_with fail
  clear c1 c2 c3 c4 c6 c7 c8
  refine (wB H3.out 63 _ rfl (by simp only [List.length_append, List.length_cons, List.length_nil, L_len]; have h47 : (ByteArray.mk #[47, 47]).size = 2 := rfl; omega)).mono ?_
  rintro e w4 ⟨rfl, hst⟩
  have H4 := hide hst
  have c1 := hst.cell 1; have c2 := hst.cell 2; have c3 := hst.cell 3; have c4 := hst.cell 4; have c6 := hst.cell 6; have c7 := hst.cell 7; have c8 := hst.cell 8
  simp at c1 c2 c3 c4 c6 c7 c8
  clear hst
  go_wp2_with fail
  clear c1 c2 c3 c4 c6 c7 c8
  refine (wS H4.out qu (by simp only [List.length_append, List.length_cons, List.length_nil, L_len]; have h47 : (ByteArray.mk #[47, 47]).size = 2 := rfl; omega)).mono ?_
  rintro e w5 ⟨rfl, hst⟩
  have H5 := hide hst
  have c1 := hst.cell 1; have c2 := hst.cell 2; have c3 := hst.cell 3; have c4 := hst.cell 4; have c6 := hst.cell 6; have c7 := hst.cell 7; have c8 := hst.cell 8
  simp at c1 c2 c3 c4 c6 c7 c8
  clear hst
  go_wp2_with fail
  clear c1 c2 c3 c4 c6 c7 c8
  refine (wB H5.out 35 _ rfl (by simp only [List.length_append, List.length_cons, List.length_nil, L_len]; have h47 : (ByteArray.mk #[47, 47]).size = 2 := rfl; omega)).mono ?_
  rintro e w6 ⟨rfl, hst⟩
  have H6 := hide hst
  have c1 := hst.cell 1; have c2 := hst.cell 2; have c3 := hst.cell 3; have c4 := hst.cell 4; have c6 := hst.cell 6; have c7 := hst.cell 7; have c8 := hst.cell 8
  simp at c1 c2 c3 c4 c6 c7 c8
  clear hst
  go_wp2_with fail
  clear c1 c2 c3 c4 c6 c7 c8
  refine (wS H6.out fr (by simp only [List.length_append, List.length_cons, List.length_nil, L_len]; have h47 : (ByteArray.mk #[47, 47]).size = 2 := rfl; omega)).mono ?_
  rintro e w7 ⟨rfl, hst⟩
  have H7 := hide hst
  have c1 := hst.cell 1; have c2 := hst.cell 2; have c3 := hst.cell 3; have c4 := hst.cell 4; have c6 := hst.cell 6; have c7 := hst.cell 7; have c8 := hst.cell 8
  simp at c1 c2 c3 c4 c6 c7 c8
  clear hst
  go_wp2_with fail
  clear c1 c2 c3 c4 c6 c7 c8
  refine (wE H7.out).mono ?_
  rintro e w' ⟨rfl, hb⟩
  have HB := hide hb
  clear hb
  go_wp2_with fail
  rw [← HQ.out]
  refine ⟨?_, HB.out⟩
  show Ending.returned (.string _) = .returned (.string _)
  congr 3
  simp [joinL, L]
set_option maxRecDepth 100000 in
set_option maxHeartbeats 4000000 in
theorem str_1000 (sc au pa qu fr : ByteArray) (w : World) (hs : (sc.size : Int) + au.size + pa.size + qu.size + fr.size ≤ 2097152) :
    Calls Tryd.prog 18 #[.agg #[.string sc, .string au, .string pa, .string qu, .string fr, .bool true, .bool false, .bool false, .bool false]] w fun e w' => e = .returned (.string (ofL (joinL (L sc) (L au) (L pa) (L qu) (L fr) true false false false))) ∧ Below w.heap.size w w' := by
  generalize hQ : (fun (e : Ending) (w' : World) => e = .returned (.string (ofL (joinL (L sc) (L au) (L pa) (L qu) (L fr) true false false false))) ∧ Below w.heap.size w w') = Q
  have HQ := hide hQ
  clear hQ
  go_enter Tryd.func18, Tryd.ntmps18
  go_wp2_with fail
  have H0 := hide (st0 w #[.string sc, .string au, .string pa, .string qu, .string fr, .bool true, .bool false, .bool false, .bool false])
  refine (wS H0.out sc (by simp only [List.length_append, List.length_cons, List.length_nil, L_len]; omega)).mono ?_
  rintro e w1 ⟨rfl, hst⟩
  have H1 := hide hst
  have c1 := hst.cell 1; have c2 := hst.cell 2; have c3 := hst.cell 3; have c4 := hst.cell 4; have c6 := hst.cell 6; have c7 := hst.cell 7; have c8 := hst.cell 8
  simp at c1 c2 c3 c4 c6 c7 c8
  clear hst
  go_wp2_with fail
  clear c1 c2 c3 c4 c6 c7 c8
  refine (wB H1.out 58 _ rfl (by simp only [List.length_append, List.length_cons, List.length_nil, L_len]; omega)).mono ?_
  rintro e w2 ⟨rfl, hst⟩
  have H2 := hide hst
  have c1 := hst.cell 1; have c2 := hst.cell 2; have c3 := hst.cell 3; have c4 := hst.cell 4; have c6 := hst.cell 6; have c7 := hst.cell 7; have c8 := hst.cell 8
  simp at c1 c2 c3 c4 c6 c7 c8
  clear hst
  go_wp2_with fail
  clear c1 c2 c3 c4 c6 c7 c8
  refine (wS H2.out pa (by simp only [List.length_append, List.length_cons, List.length_nil, L_len]; omega)).mono ?_
  rintro e w3 ⟨rfl, hst⟩
  have H3 := hide hst
  have c1 := hst.cell 1; have c2 := hst.cell 2; have c3 := hst.cell 3; have c4 := hst.cell 4; have c6 := hst.cell 6; have c7 := hst.cell 7; have c8 := hst.cell 8
  simp at c1 c2 c3 c4 c6 c7 c8
  clear hst
  go_wp2_with fail
  clear c1 c2 c3 c4 c6 c7 c8
  refine (wE H3.out).mono ?_
  rintro e w' ⟨rfl, hb⟩
  have HB := hide hb
  clear hb
  go_wp2_with fail
  rw [← HQ.out]
  refine ⟨?_, HB.out⟩
  show Ending.returned (.string _) = .returned (.string _)
  congr 3
  simp [joinL, L]
set_option maxRecDepth 100000 in
set_option maxHeartbeats 4000000 in
theorem str_1001 (sc au pa qu fr : ByteArray) (w : World) (hs : (sc.size : Int) + au.size + pa.size + qu.size + fr.size ≤ 2097152) :
    Calls Tryd.prog 18 #[.agg #[.string sc, .string au, .string pa, .string qu, .string fr, .bool true, .bool false, .bool false, .bool true]] w fun e w' => e = .returned (.string (ofL (joinL (L sc) (L au) (L pa) (L qu) (L fr) true false false true))) ∧ Below w.heap.size w w' := by
  generalize hQ : (fun (e : Ending) (w' : World) => e = .returned (.string (ofL (joinL (L sc) (L au) (L pa) (L qu) (L fr) true false false true))) ∧ Below w.heap.size w w') = Q
  have HQ := hide hQ
  clear hQ
  go_enter Tryd.func18, Tryd.ntmps18
  go_wp2_with fail
  have H0 := hide (st0 w #[.string sc, .string au, .string pa, .string qu, .string fr, .bool true, .bool false, .bool false, .bool true])
  refine (wS H0.out sc (by simp only [List.length_append, List.length_cons, List.length_nil, L_len]; omega)).mono ?_
  rintro e w1 ⟨rfl, hst⟩
  have H1 := hide hst
  have c1 := hst.cell 1; have c2 := hst.cell 2; have c3 := hst.cell 3; have c4 := hst.cell 4; have c6 := hst.cell 6; have c7 := hst.cell 7; have c8 := hst.cell 8
  simp at c1 c2 c3 c4 c6 c7 c8
  clear hst
  go_wp2_with fail
  clear c1 c2 c3 c4 c6 c7 c8
  refine (wB H1.out 58 _ rfl (by simp only [List.length_append, List.length_cons, List.length_nil, L_len]; omega)).mono ?_
  rintro e w2 ⟨rfl, hst⟩
  have H2 := hide hst
  have c1 := hst.cell 1; have c2 := hst.cell 2; have c3 := hst.cell 3; have c4 := hst.cell 4; have c6 := hst.cell 6; have c7 := hst.cell 7; have c8 := hst.cell 8
  simp at c1 c2 c3 c4 c6 c7 c8
  clear hst
  go_wp2_with fail
  clear c1 c2 c3 c4 c6 c7 c8
  refine (wS H2.out pa (by simp only [List.length_append, List.length_cons, List.length_nil, L_len]; omega)).mono ?_
  rintro e w3 ⟨rfl, hst⟩
  have H3 := hide hst
  have c1 := hst.cell 1; have c2 := hst.cell 2; have c3 := hst.cell 3; have c4 := hst.cell 4; have c6 := hst.cell 6; have c7 := hst.cell 7; have c8 := hst.cell 8
  simp at c1 c2 c3 c4 c6 c7 c8
  clear hst
  go_wp2_with fail
  clear c1 c2 c3 c4 c6 c7 c8
  refine (wB H3.out 35 _ rfl (by simp only [List.length_append, List.length_cons, List.length_nil, L_len]; omega)).mono ?_
  rintro e w4 ⟨rfl, hst⟩
  have H4 := hide hst
  have c1 := hst.cell 1; have c2 := hst.cell 2; have c3 := hst.cell 3; have c4 := hst.cell 4; have c6 := hst.cell 6; have c7 := hst.cell 7; have c8 := hst.cell 8
  simp at c1 c2 c3 c4 c6 c7 c8
  clear hst
  go_wp2_with fail
  clear c1 c2 c3 c4 c6 c7 c8
  refine (wS H4.out fr (by simp only [List.length_append, List.length_cons, List.length_nil, L_len]; omega)).mono ?_
  rintro e w5 ⟨rfl, hst⟩
  have H5 := hide hst
  have c1 := hst.cell 1; have c2 := hst.cell 2; have c3 := hst.cell 3; have c4 := hst.cell 4; have c6 := hst.cell 6; have c7 := hst.cell 7; have c8 := hst.cell 8
  simp at c1 c2 c3 c4 c6 c7 c8
  clear hst
  go_wp2_with fail
  clear c1 c2 c3 c4 c6 c7 c8
  refine (wE H5.out).mono ?_
  rintro e w' ⟨rfl, hb⟩
  have HB := hide hb
  clear hb
  go_wp2_with fail
  rw [← HQ.out]
  refine ⟨?_, HB.out⟩
  show Ending.returned (.string _) = .returned (.string _)
  congr 3
  simp [joinL, L]
set_option maxRecDepth 100000 in
set_option maxHeartbeats 4000000 in
theorem str_1010 (sc au pa qu fr : ByteArray) (w : World) (hs : (sc.size : Int) + au.size + pa.size + qu.size + fr.size ≤ 2097152) :
    Calls Tryd.prog 18 #[.agg #[.string sc, .string au, .string pa, .string qu, .string fr, .bool true, .bool false, .bool true, .bool false]] w fun e w' => e = .returned (.string (ofL (joinL (L sc) (L au) (L pa) (L qu) (L fr) true false true false))) ∧ Below w.heap.size w w' := by
  generalize hQ : (fun (e : Ending) (w' : World) => e = .returned (.string (ofL (joinL (L sc) (L au) (L pa) (L qu) (L fr) true false true false))) ∧ Below w.heap.size w w') = Q
  have HQ := hide hQ
  clear hQ
  go_enter Tryd.func18, Tryd.ntmps18
  go_wp2_with fail
  have H0 := hide (st0 w #[.string sc, .string au, .string pa, .string qu, .string fr, .bool true, .bool false, .bool true, .bool false])
  refine (wS H0.out sc (by simp only [List.length_append, List.length_cons, List.length_nil, L_len]; omega)).mono ?_
  rintro e w1 ⟨rfl, hst⟩
  have H1 := hide hst
  have c1 := hst.cell 1; have c2 := hst.cell 2; have c3 := hst.cell 3; have c4 := hst.cell 4; have c6 := hst.cell 6; have c7 := hst.cell 7; have c8 := hst.cell 8
  simp at c1 c2 c3 c4 c6 c7 c8
  clear hst
  go_wp2_with fail
  clear c1 c2 c3 c4 c6 c7 c8
  refine (wB H1.out 58 _ rfl (by simp only [List.length_append, List.length_cons, List.length_nil, L_len]; omega)).mono ?_
  rintro e w2 ⟨rfl, hst⟩
  have H2 := hide hst
  have c1 := hst.cell 1; have c2 := hst.cell 2; have c3 := hst.cell 3; have c4 := hst.cell 4; have c6 := hst.cell 6; have c7 := hst.cell 7; have c8 := hst.cell 8
  simp at c1 c2 c3 c4 c6 c7 c8
  clear hst
  go_wp2_with fail
  clear c1 c2 c3 c4 c6 c7 c8
  refine (wS H2.out pa (by simp only [List.length_append, List.length_cons, List.length_nil, L_len]; omega)).mono ?_
  rintro e w3 ⟨rfl, hst⟩
  have H3 := hide hst
  have c1 := hst.cell 1; have c2 := hst.cell 2; have c3 := hst.cell 3; have c4 := hst.cell 4; have c6 := hst.cell 6; have c7 := hst.cell 7; have c8 := hst.cell 8
  simp at c1 c2 c3 c4 c6 c7 c8
  clear hst
  go_wp2_with fail
  clear c1 c2 c3 c4 c6 c7 c8
  refine (wB H3.out 63 _ rfl (by simp only [List.length_append, List.length_cons, List.length_nil, L_len]; omega)).mono ?_
  rintro e w4 ⟨rfl, hst⟩
  have H4 := hide hst
  have c1 := hst.cell 1; have c2 := hst.cell 2; have c3 := hst.cell 3; have c4 := hst.cell 4; have c6 := hst.cell 6; have c7 := hst.cell 7; have c8 := hst.cell 8
  simp at c1 c2 c3 c4 c6 c7 c8
  clear hst
  go_wp2_with fail
  clear c1 c2 c3 c4 c6 c7 c8
  refine (wS H4.out qu (by simp only [List.length_append, List.length_cons, List.length_nil, L_len]; omega)).mono ?_
  rintro e w5 ⟨rfl, hst⟩
  have H5 := hide hst
  have c1 := hst.cell 1; have c2 := hst.cell 2; have c3 := hst.cell 3; have c4 := hst.cell 4; have c6 := hst.cell 6; have c7 := hst.cell 7; have c8 := hst.cell 8
  simp at c1 c2 c3 c4 c6 c7 c8
  clear hst
  go_wp2_with fail
  clear c1 c2 c3 c4 c6 c7 c8
  refine (wE H5.out).mono ?_
  rintro e w' ⟨rfl, hb⟩
  have HB := hide hb
  clear hb
  go_wp2_with fail
  rw [← HQ.out]
  refine ⟨?_, HB.out⟩
  show Ending.returned (.string _) = .returned (.string _)
  congr 3
  simp [joinL, L]
set_option maxRecDepth 100000 in
set_option maxHeartbeats 4000000 in
theorem str_1011 (sc au pa qu fr : ByteArray) (w : World) (hs : (sc.size : Int) + au.size + pa.size + qu.size + fr.size ≤ 2097152) :
    Calls Tryd.prog 18 #[.agg #[.string sc, .string au, .string pa, .string qu, .string fr, .bool true, .bool false, .bool true, .bool true]] w fun e w' => e = .returned (.string (ofL (joinL (L sc) (L au) (L pa) (L qu) (L fr) true false true true))) ∧ Below w.heap.size w w' := by
  generalize hQ : (fun (e : Ending) (w' : World) => e = .returned (.string (ofL (joinL (L sc) (L au) (L pa) (L qu) (L fr) true false true true))) ∧ Below w.heap.size w w') = Q
  have HQ := hide hQ
  clear hQ
  go_enter Tryd.func18, Tryd.ntmps18
  go_wp2_with fail
  have H0 := hide (st0 w #[.string sc, .string au, .string pa, .string qu, .string fr, .bool true, .bool false, .bool true, .bool true])
  refine (wS H0.out sc (by simp only [List.length_append, List.length_cons, List.length_nil, L_len]; omega)).mono ?_
  rintro e w1 ⟨rfl, hst⟩
  have H1 := hide hst
  have c1 := hst.cell 1; have c2 := hst.cell 2; have c3 := hst.cell 3; have c4 := hst.cell 4; have c6 := hst.cell 6; have c7 := hst.cell 7; have c8 := hst.cell 8
  simp at c1 c2 c3 c4 c6 c7 c8
  clear hst
  go_wp2_with fail
  clear c1 c2 c3 c4 c6 c7 c8
  refine (wB H1.out 58 _ rfl (by simp only [List.length_append, List.length_cons, List.length_nil, L_len]; omega)).mono ?_
  rintro e w2 ⟨rfl, hst⟩
  have H2 := hide hst
  have c1 := hst.cell 1; have c2 := hst.cell 2; have c3 := hst.cell 3; have c4 := hst.cell 4; have c6 := hst.cell 6; have c7 := hst.cell 7; have c8 := hst.cell 8
  simp at c1 c2 c3 c4 c6 c7 c8
  clear hst
  go_wp2_with fail
  clear c1 c2 c3 c4 c6 c7 c8
  refine (wS H2.out pa (by simp only [List.length_append, List.length_cons, List.length_nil, L_len]; omega)).mono ?_
  rintro e w3 ⟨rfl, hst⟩
  have H3 := hide hst
  have c1 := hst.cell 1; have c2 := hst.cell 2; have c3 := hst.cell 3; have c4 := hst.cell 4; have c6 := hst.cell 6; have c7 := hst.cell 7; have c8 := hst.cell 8
  simp at c1 c2 c3 c4 c6 c7 c8
  clear hst
  go_wp2_with fail
  clear c1 c2 c3 c4 c6 c7 c8
  refine (wB H3.out 63 _ rfl (by simp only [List.length_append, List.length_cons, List.length_nil, L_len]; omega)).mono ?_
  rintro e w4 ⟨rfl, hst⟩
  have H4 := hide hst
  have c1 := hst.cell 1; have c2 := hst.cell 2; have c3 := hst.cell 3; have c4 := hst.cell 4; have c6 := hst.cell 6; have c7 := hst.cell 7; have c8 := hst.cell 8
  simp at c1 c2 c3 c4 c6 c7 c8
  clear hst
  go_wp2_with fail
  clear c1 c2 c3 c4 c6 c7 c8
  refine (wS H4.out qu (by simp only [List.length_append, List.length_cons, List.length_nil, L_len]; omega)).mono ?_
  rintro e w5 ⟨rfl, hst⟩
  have H5 := hide hst
  have c1 := hst.cell 1; have c2 := hst.cell 2; have c3 := hst.cell 3; have c4 := hst.cell 4; have c6 := hst.cell 6; have c7 := hst.cell 7; have c8 := hst.cell 8
  simp at c1 c2 c3 c4 c6 c7 c8
  clear hst
  go_wp2_with fail
  clear c1 c2 c3 c4 c6 c7 c8
  refine (wB H5.out 35 _ rfl (by simp only [List.length_append, List.length_cons, List.length_nil, L_len]; omega)).mono ?_
  rintro e w6 ⟨rfl, hst⟩
  have H6 := hide hst
  have c1 := hst.cell 1; have c2 := hst.cell 2; have c3 := hst.cell 3; have c4 := hst.cell 4; have c6 := hst.cell 6; have c7 := hst.cell 7; have c8 := hst.cell 8
  simp at c1 c2 c3 c4 c6 c7 c8
  clear hst
  go_wp2_with fail
  clear c1 c2 c3 c4 c6 c7 c8
  refine (wS H6.out fr (by simp only [List.length_append, List.length_cons, List.length_nil, L_len]; omega)).mono ?_
  rintro e w7 ⟨rfl, hst⟩
  have H7 := hide hst
  have c1 := hst.cell 1; have c2 := hst.cell 2; have c3 := hst.cell 3; have c4 := hst.cell 4; have c6 := hst.cell 6; have c7 := hst.cell 7; have c8 := hst.cell 8
  simp at c1 c2 c3 c4 c6 c7 c8
  clear hst
  go_wp2_with fail
  clear c1 c2 c3 c4 c6 c7 c8
  refine (wE H7.out).mono ?_
  rintro e w' ⟨rfl, hb⟩
  have HB := hide hb
  clear hb
  go_wp2_with fail
  rw [← HQ.out]
  refine ⟨?_, HB.out⟩
  show Ending.returned (.string _) = .returned (.string _)
  congr 3
  simp [joinL, L]
set_option maxRecDepth 100000 in
set_option maxHeartbeats 4000000 in
theorem str_1100 (sc au pa qu fr : ByteArray) (w : World) (hs : (sc.size : Int) + au.size + pa.size + qu.size + fr.size ≤ 2097152) :
    Calls Tryd.prog 18 #[.agg #[.string sc, .string au, .string pa, .string qu, .string fr, .bool true, .bool true, .bool false, .bool false]] w fun e w' => e = .returned (.string (ofL (joinL (L sc) (L au) (L pa) (L qu) (L fr) true true false false))) ∧ Below w.heap.size w w' := by
  generalize hQ : (fun (e : Ending) (w' : World) => e = .returned (.string (ofL (joinL (L sc) (L au) (L pa) (L qu) (L fr) true true false false))) ∧ Below w.heap.size w w') = Q
  have HQ := hide hQ
  clear hQ
  go_enter Tryd.func18, Tryd.ntmps18
  go_wp2_with fail
  have H0 := hide (st0 w #[.string sc, .string au, .string pa, .string qu, .string fr, .bool true, .bool true, .bool false, .bool false])
  refine (wS H0.out sc (by simp only [List.length_append, List.length_cons, List.length_nil, L_len]; have h47 : (ByteArray.mk #[47, 47]).size = 2 := rfl; omega)).mono ?_
  rintro e w1 ⟨rfl, hst⟩
  have H1 := hide hst
  have c1 := hst.cell 1; have c2 := hst.cell 2; have c3 := hst.cell 3; have c4 := hst.cell 4; have c6 := hst.cell 6; have c7 := hst.cell 7; have c8 := hst.cell 8
  simp at c1 c2 c3 c4 c6 c7 c8
  clear hst
  go_wp2_with fail
  clear c1 c2 c3 c4 c6 c7 c8
  refine (wB H1.out 58 _ rfl (by simp only [List.length_append, List.length_cons, List.length_nil, L_len]; have h47 : (ByteArray.mk #[47, 47]).size = 2 := rfl; omega)).mono ?_
  rintro e w2 ⟨rfl, hst⟩
  have H2 := hide hst
  have c1 := hst.cell 1; have c2 := hst.cell 2; have c3 := hst.cell 3; have c4 := hst.cell 4; have c6 := hst.cell 6; have c7 := hst.cell 7; have c8 := hst.cell 8
  simp at c1 c2 c3 c4 c6 c7 c8
  clear hst
  go_wp2_with fail
  clear c1 c2 c3 c4 c6 c7 c8
  refine (wS H2.out ⟨#[47, 47]⟩ (by simp only [List.length_append, List.length_cons, List.length_nil, L_len]; have h47 : (ByteArray.mk #[47, 47]).size = 2 := rfl; omega)).mono ?_
  rintro e w3 ⟨rfl, hst⟩
  have H3 := hide hst
  have c1 := hst.cell 1; have c2 := hst.cell 2; have c3 := hst.cell 3; have c4 := hst.cell 4; have c6 := hst.cell 6; have c7 := hst.cell 7; have c8 := hst.cell 8
  simp at c1 c2 c3 c4 c6 c7 c8
  clear hst
  go_wp2_with fail
  clear c1 c2 c3 c4 c6 c7 c8
  refine (wS H3.out au (by simp only [List.length_append, List.length_cons, List.length_nil, L_len]; have h47 : (ByteArray.mk #[47, 47]).size = 2 := rfl; omega)).mono ?_
  rintro e w4 ⟨rfl, hst⟩
  have H4 := hide hst
  have c1 := hst.cell 1; have c2 := hst.cell 2; have c3 := hst.cell 3; have c4 := hst.cell 4; have c6 := hst.cell 6; have c7 := hst.cell 7; have c8 := hst.cell 8
  simp at c1 c2 c3 c4 c6 c7 c8
  clear hst
  go_wp2_with fail
  clear c1 c2 c3 c4 c6 c7 c8
  refine (wS H4.out pa (by simp only [List.length_append, List.length_cons, List.length_nil, L_len]; have h47 : (ByteArray.mk #[47, 47]).size = 2 := rfl; omega)).mono ?_
  rintro e w5 ⟨rfl, hst⟩
  have H5 := hide hst
  have c1 := hst.cell 1; have c2 := hst.cell 2; have c3 := hst.cell 3; have c4 := hst.cell 4; have c6 := hst.cell 6; have c7 := hst.cell 7; have c8 := hst.cell 8
  simp at c1 c2 c3 c4 c6 c7 c8
  clear hst
  go_wp2_with fail
  clear c1 c2 c3 c4 c6 c7 c8
  refine (wE H5.out).mono ?_
  rintro e w' ⟨rfl, hb⟩
  have HB := hide hb
  clear hb
  go_wp2_with fail
  rw [← HQ.out]
  refine ⟨?_, HB.out⟩
  show Ending.returned (.string _) = .returned (.string _)
  congr 3
  simp [joinL, L]
set_option maxRecDepth 100000 in
set_option maxHeartbeats 4000000 in
theorem str_1101 (sc au pa qu fr : ByteArray) (w : World) (hs : (sc.size : Int) + au.size + pa.size + qu.size + fr.size ≤ 2097152) :
    Calls Tryd.prog 18 #[.agg #[.string sc, .string au, .string pa, .string qu, .string fr, .bool true, .bool true, .bool false, .bool true]] w fun e w' => e = .returned (.string (ofL (joinL (L sc) (L au) (L pa) (L qu) (L fr) true true false true))) ∧ Below w.heap.size w w' := by
  generalize hQ : (fun (e : Ending) (w' : World) => e = .returned (.string (ofL (joinL (L sc) (L au) (L pa) (L qu) (L fr) true true false true))) ∧ Below w.heap.size w w') = Q
  have HQ := hide hQ
  clear hQ
  go_enter Tryd.func18, Tryd.ntmps18
  go_wp2_with fail
  have H0 := hide (st0 w #[.string sc, .string au, .string pa, .string qu, .string fr, .bool true, .bool true, .bool false, .bool true])
  refine (wS H0.out sc (by simp only [List.length_append, List.length_cons, List.length_nil, L_len]; have h47 : (ByteArray.mk #[47, 47]).size = 2 := rfl; omega)).mono ?_
  rintro e w1 ⟨rfl, hst⟩
  have H1 := hide hst
  have c1 := hst.cell 1; have c2 := hst.cell 2; have c3 := hst.cell 3; have c4 := hst.cell 4; have c6 := hst.cell 6; have c7 := hst.cell 7; have c8 := hst.cell 8
  simp at c1 c2 c3 c4 c6 c7 c8
  clear hst
  go_wp2_with fail
  clear c1 c2 c3 c4 c6 c7 c8
  refine (wB H1.out 58 _ rfl (by simp only [List.length_append, List.length_cons, List.length_nil, L_len]; have h47 : (ByteArray.mk #[47, 47]).size = 2 := rfl; omega)).mono ?_
  rintro e w2 ⟨rfl, hst⟩
  have H2 := hide hst
  have c1 := hst.cell 1; have c2 := hst.cell 2; have c3 := hst.cell 3; have c4 := hst.cell 4; have c6 := hst.cell 6; have c7 := hst.cell 7; have c8 := hst.cell 8
  simp at c1 c2 c3 c4 c6 c7 c8
  clear hst
  go_wp2_with fail
  clear c1 c2 c3 c4 c6 c7 c8
  refine (wS H2.out ⟨#[47, 47]⟩ (by simp only [List.length_append, List.length_cons, List.length_nil, L_len]; have h47 : (ByteArray.mk #[47, 47]).size = 2 := rfl; omega)).mono ?_
  rintro e w3 ⟨rfl, hst⟩
  have H3 := hide hst
  have c1 := hst.cell 1; have c2 := hst.cell 2; have c3 := hst.cell 3; have c4 := hst.cell 4; have c6 := hst.cell 6; have c7 := hst.cell 7; have c8 := hst.cell 8
  simp at c1 c2 c3 c4 c6 c7 c8
  clear hst
  go_wp2_with fail
  clear c1 c2 c3 c4 c6 c7 c8
  refine (wS H3.out au (by simp only [List.length_append, List.length_cons, List.length_nil, L_len]; have h47 : (ByteArray.mk #[47, 47]).size = 2 := rfl; omega)).mono ?_
  rintro e w4 ⟨rfl, hst⟩
  have H4 := hide hst
  have c1 := hst.cell 1; have c2 := hst.cell 2; have c3 := hst.cell 3; have c4 := hst.cell 4; have c6 := hst.cell 6; have c7 := hst.cell 7; have c8 := hst.cell 8
  simp at c1 c2 c3 c4 c6 c7 c8
  clear hst
  go_wp2_with fail
  clear c1 c2 c3 c4 c6 c7 c8
  refine (wS H4.out pa (by simp only [List.length_append, List.length_cons, List.length_nil, L_len]; have h47 : (ByteArray.mk #[47, 47]).size = 2 := rfl; omega)).mono ?_
  rintro e w5 ⟨rfl, hst⟩
  have H5 := hide hst
  have c1 := hst.cell 1; have c2 := hst.cell 2; have c3 := hst.cell 3; have c4 := hst.cell 4; have c6 := hst.cell 6; have c7 := hst.cell 7; have c8 := hst.cell 8
  simp at c1 c2 c3 c4 c6 c7 c8
  clear hst
  go_wp2_with fail
  clear c1 c2 c3 c4 c6 c7 c8
  refine (wB H5.out 35 _ rfl (by simp only [List.length_append, List.length_cons, List.length_nil, L_len]; have h47 : (ByteArray.mk #[47, 47]).size = 2 := rfl; omega)).mono ?_
  rintro e w6 ⟨rfl, hst⟩
  have H6 := hide hst
  have c1 := hst.cell 1; have c2 := hst.cell 2; have c3 := hst.cell 3; have c4 := hst.cell 4; have c6 := hst.cell 6; have c7 := hst.cell 7; have c8 := hst.cell 8
  simp at c1 c2 c3 c4 c6 c7 c8
  clear hst
  go_wp2_with fail
  clear c1 c2 c3 c4 c6 c7 c8
  refine (wS H6.out fr (by simp only [List.length_append, List.length_cons, List.length_nil, L_len]; have h47 : (ByteArray.mk #[47, 47]).size = 2 := rfl; omega)).mono ?_
  rintro e w7 ⟨rfl, hst⟩
  have H7 := hide hst
  have c1 := hst.cell 1; have c2 := hst.cell 2; have c3 := hst.cell 3; have c4 := hst.cell 4; have c6 := hst.cell 6; have c7 := hst.cell 7; have c8 := hst.cell 8
  simp at c1 c2 c3 c4 c6 c7 c8
  clear hst
  go_wp2_with fail
  clear c1 c2 c3 c4 c6 c7 c8
  refine (wE H7.out).mono ?_
  rintro e w' ⟨rfl, hb⟩
  have HB := hide hb
  clear hb
  go_wp2_with fail
  rw [← HQ.out]
  refine ⟨?_, HB.out⟩
  show Ending.returned (.string _) = .returned (.string _)
  congr 3
  simp [joinL, L]
set_option maxRecDepth 100000 in
set_option maxHeartbeats 4000000 in
theorem str_1110 (sc au pa qu fr : ByteArray) (w : World) (hs : (sc.size : Int) + au.size + pa.size + qu.size + fr.size ≤ 2097152) :
    Calls Tryd.prog 18 #[.agg #[.string sc, .string au, .string pa, .string qu, .string fr, .bool true, .bool true, .bool true, .bool false]] w fun e w' => e = .returned (.string (ofL (joinL (L sc) (L au) (L pa) (L qu) (L fr) true true true false))) ∧ Below w.heap.size w w' := by
  generalize hQ : (fun (e : Ending) (w' : World) => e = .returned (.string (ofL (joinL (L sc) (L au) (L pa) (L qu) (L fr) true true true false))) ∧ Below w.heap.size w w') = Q
  have HQ := hide hQ
  clear hQ
  go_enter Tryd.func18, Tryd.ntmps18
  go_wp2_with fail
  have H0 := hide (st0 w #[.string sc, .string au, .string pa, .string qu, .string fr, .bool true, .bool true, .bool true, .bool false])
  refine (wS H0.out sc (by simp only [List.length_append, List.length_cons, List.length_nil, L_len]; have h47 : (ByteArray.mk #[47, 47]).size = 2 := rfl; omega)).mono ?_
  rintro e w1 ⟨rfl, hst⟩
  have H1 := hide hst
  have c1 := hst.cell 1; have c2 := hst.cell 2; have c3 := hst.cell 3; have c4 := hst.cell 4; have c6 := hst.cell 6; have c7 := hst.cell 7; have c8 := hst.cell 8
  simp at c1 c2 c3 c4 c6 c7 c8
  clear hst
  go_wp2_with fail
  clear c1 c2 c3 c4 c6 c7 c8
  refine (wB H1.out 58 _ rfl (by simp only [List.length_append, List.length_cons, List.length_nil, L_len]; have h47 : (ByteArray.mk #[47, 47]).size = 2 := rfl; omega)).mono ?_
  rintro e w2 ⟨rfl, hst⟩
  have H2 := hide hst
  have c1 := hst.cell 1; have c2 := hst.cell 2; have c3 := hst.cell 3; have c4 := hst.cell 4; have c6 := hst.cell 6; have c7 := hst.cell 7; have c8 := hst.cell 8
  simp at c1 c2 c3 c4 c6 c7 c8
  clear hst
  go_wp2_with fail
  clear c1 c2 c3 c4 c6 c7 c8
  refine (wS H2.out ⟨#[47, 47]⟩ (by simp only [List.length_append, List.length_cons, List.length_nil, L_len]; have h47 : (ByteArray.mk #[47, 47]).size = 2 := rfl; omega)).mono ?_
  rintro e w3 ⟨rfl, hst⟩
  have H3 := hide hst
  have c1 := hst.cell 1; have c2 := hst.cell 2; have c3 := hst.cell 3; have c4 := hst.cell 4; have c6 := hst.cell 6; have c7 := hst.cell 7; have c8 := hst.cell 8
  simp at c1 c2 c3 c4 c6 c7 c8
  clear hst
  go_wp2_with fail
  clear c1 c2 c3 c4 c6 c7 c8
  refine (wS H3.out au (by simp only [List.length_append, List.length_cons, List.length_nil, L_len]; have h47 : (ByteArray.mk #[47, 47]).size = 2 := rfl; omega)).mono ?_
  rintro e w4 ⟨rfl, hst⟩
  have H4 := hide hst
  have c1 := hst.cell 1; have c2 := hst.cell 2; have c3 := hst.cell 3; have c4 := hst.cell 4; have c6 := hst.cell 6; have c7 := hst.cell 7; have c8 := hst.cell 8
  simp at c1 c2 c3 c4 c6 c7 c8
  clear hst
  go_wp2_with fail
  clear c1 c2 c3 c4 c6 c7 c8
  refine (wS H4.out pa (by simp only [List.length_append, List.length_cons, List.length_nil, L_len]; have h47 : (ByteArray.mk #[47, 47]).size = 2 := rfl; omega)).mono ?_
  rintro e w5 ⟨rfl, hst⟩
  have H5 := hide hst
  have c1 := hst.cell 1; have c2 := hst.cell 2; have c3 := hst.cell 3; have c4 := hst.cell 4; have c6 := hst.cell 6; have c7 := hst.cell 7; have c8 := hst.cell 8
  simp at c1 c2 c3 c4 c6 c7 c8
  clear hst
  go_wp2_with fail
  clear c1 c2 c3 c4 c6 c7 c8
  refine (wB H5.out 63 _ rfl (by simp only [List.length_append, List.length_cons, List.length_nil, L_len]; have h47 : (ByteArray.mk #[47, 47]).size = 2 := rfl; omega)).mono ?_
  rintro e w6 ⟨rfl, hst⟩
  have H6 := hide hst
  have c1 := hst.cell 1; have c2 := hst.cell 2; have c3 := hst.cell 3; have c4 := hst.cell 4; have c6 := hst.cell 6; have c7 := hst.cell 7; have c8 := hst.cell 8
  simp at c1 c2 c3 c4 c6 c7 c8
  clear hst
  go_wp2_with fail
  clear c1 c2 c3 c4 c6 c7 c8
  refine (wS H6.out qu (by simp only [List.length_append, List.length_cons, List.length_nil, L_len]; have h47 : (ByteArray.mk #[47, 47]).size = 2 := rfl; omega)).mono ?_
  rintro e w7 ⟨rfl, hst⟩
  have H7 := hide hst
  have c1 := hst.cell 1; have c2 := hst.cell 2; have c3 := hst.cell 3; have c4 := hst.cell 4; have c6 := hst.cell 6; have c7 := hst.cell 7; have c8 := hst.cell 8
  simp at c1 c2 c3 c4 c6 c7 c8
  clear hst
  go_wp2_with fail
  clear c1 c2 c3 c4 c6 c7 c8
  refine (wE H7.out).mono ?_
  rintro e w' ⟨rfl, hb⟩
  have HB := hide hb
  clear hb
  go_wp2_with fail
  rw [← HQ.out]
  refine ⟨?_, HB.out⟩
  show Ending.returned (.string _) = .returned (.string _)
  congr 3
  simp [joinL, L]
set_option maxRecDepth 100000 in
set_option maxHeartbeats 4000000 in
theorem str_1111 (sc au pa qu fr : ByteArray) (w : World) (hs : (sc.size : Int) + au.size + pa.size + qu.size + fr.size ≤ 2097152) :
    Calls Tryd.prog 18 #[.agg #[.string sc, .string au, .string pa, .string qu, .string fr, .bool true, .bool true, .bool true, .bool true]] w fun e w' => e = .returned (.string (ofL (joinL (L sc) (L au) (L pa) (L qu) (L fr) true true true true))) ∧ Below w.heap.size w w' := by
  generalize hQ : (fun (e : Ending) (w' : World) => e = .returned (.string (ofL (joinL (L sc) (L au) (L pa) (L qu) (L fr) true true true true))) ∧ Below w.heap.size w w') = Q
  have HQ := hide hQ
  clear hQ
  go_enter Tryd.func18, Tryd.ntmps18
  go_wp2_with fail
  have H0 := hide (st0 w #[.string sc, .string au, .string pa, .string qu, .string fr, .bool true, .bool true, .bool true, .bool true])
  refine (wS H0.out sc (by simp only [List.length_append, List.length_cons, List.length_nil, L_len]; have h47 : (ByteArray.mk #[47, 47]).size = 2 := rfl; omega)).mono ?_
  rintro e w1 ⟨rfl, hst⟩
  have H1 := hide hst
  have c1 := hst.cell 1; have c2 := hst.cell 2; have c3 := hst.cell 3; have c4 := hst.cell 4; have c6 := hst.cell 6; have c7 := hst.cell 7; have c8 := hst.cell 8
  simp at c1 c2 c3 c4 c6 c7 c8
  clear hst
  go_wp2_with fail
  clear c1 c2 c3 c4 c6 c7 c8
  refine (wB H1.out 58 _ rfl (by simp only [List.length_append, List.length_cons, List.length_nil, L_len]; have h47 : (ByteArray.mk #[47, 47]).size = 2 := rfl; omega)).mono ?_
  rintro e w2 ⟨rfl, hst⟩
  have H2 := hide hst
  have c1 := hst.cell 1; have c2 := hst.cell 2; have c3 := hst.cell 3; have c4 := hst.cell 4; have c6 := hst.cell 6; have c7 := hst.cell 7; have c8 := hst.cell 8
  simp at c1 c2 c3 c4 c6 c7 c8
  clear hst
  go_wp2_with fail
  clear c1 c2 c3 c4 c6 c7 c8
  refine (wS H2.out ⟨#[47, 47]⟩ (by simp only [List.length_append, List.length_cons, List.length_nil, L_len]; have h47 : (ByteArray.mk #[47, 47]).size = 2 := rfl; omega)).mono ?_
  rintro e w3 ⟨rfl, hst⟩
  have H3 := hide hst
  have c1 := hst.cell 1; have c2 := hst.cell 2; have c3 := hst.cell 3; have c4 := hst.cell 4; have c6 := hst.cell 6; have c7 := hst.cell 7; have c8 := hst.cell 8
  simp at c1 c2 c3 c4 c6 c7 c8
  clear hst
  go_wp2_with fail
  clear c1 c2 c3 c4 c6 c7 c8
  refine (wS H3.out au (by simp only [List.length_append, List.length_cons, List.length_nil, L_len]; have h47 : (ByteArray.mk #[47, 47]).size = 2 := rfl; omega)).mono ?_
  rintro e w4 ⟨rfl, hst⟩
  have H4 := hide hst
  have c1 := hst.cell 1; have c2 := hst.cell 2; have c3 := hst.cell 3; have c4 := hst.cell 4; have c6 := hst.cell 6; have c7 := hst.cell 7; have c8 := hst.cell 8
  simp at c1 c2 c3 c4 c6 c7 c8
  clear hst
  go_wp2_with fail
  clear c1 c2 c3 c4 c6 c7 c8
  refine (wS H4.out pa (by simp only [List.length_append, List.length_cons, List.length_nil, L_len]; have h47 : (ByteArray.mk #[47, 47]).size = 2 := rfl; omega)).mono ?_
  rintro e w5 ⟨rfl, hst⟩
  have H5 := hide hst
  have c1 := hst.cell 1; have c2 := hst.cell 2; have c3 := hst.cell 3; have c4 := hst.cell 4; have c6 := hst.cell 6; have c7 := hst.cell 7; have c8 := hst.cell 8
  simp at c1 c2 c3 c4 c6 c7 c8
  clear hst
  go_wp2_with fail
  clear c1 c2 c3 c4 c6 c7 c8
  refine (wB H5.out 63 _ rfl (by simp only [List.length_append, List.length_cons, List.length_nil, L_len]; have h47 : (ByteArray.mk #[47, 47]).size = 2 := rfl; omega)).mono ?_
  rintro e w6 ⟨rfl, hst⟩
  have H6 := hide hst
  have c1 := hst.cell 1; have c2 := hst.cell 2; have c3 := hst.cell 3; have c4 := hst.cell 4; have c6 := hst.cell 6; have c7 := hst.cell 7; have c8 := hst.cell 8
  simp at c1 c2 c3 c4 c6 c7 c8
  clear hst
  go_wp2_with fail
  clear c1 c2 c3 c4 c6 c7 c8
  refine (wS H6.out qu (by simp only [List.length_append, List.length_cons, List.length_nil, L_len]; have h47 : (ByteArray.mk #[47, 47]).size = 2 := rfl; omega)).mono ?_
  rintro e w7 ⟨rfl, hst⟩
  have H7 := hide hst
  have c1 := hst.cell 1; have c2 := hst.cell 2; have c3 := hst.cell 3; have c4 := hst.cell 4; have c6 := hst.cell 6; have c7 := hst.cell 7; have c8 := hst.cell 8
  simp at c1 c2 c3 c4 c6 c7 c8
  clear hst
  go_wp2_with fail
  clear c1 c2 c3 c4 c6 c7 c8
  refine (wB H7.out 35 _ rfl (by simp only [List.length_append, List.length_cons, List.length_nil, L_len]; have h47 : (ByteArray.mk #[47, 47]).size = 2 := rfl; omega)).mono ?_
  rintro e w8 ⟨rfl, hst⟩
  have H8 := hide hst
  have c1 := hst.cell 1; have c2 := hst.cell 2; have c3 := hst.cell 3; have c4 := hst.cell 4; have c6 := hst.cell 6; have c7 := hst.cell 7; have c8 := hst.cell 8
  simp at c1 c2 c3 c4 c6 c7 c8
  clear hst
  go_wp2_with fail
  clear c1 c2 c3 c4 c6 c7 c8
  refine (wS H8.out fr (by simp only [List.length_append, List.length_cons, List.length_nil, L_len]; have h47 : (ByteArray.mk #[47, 47]).size = 2 := rfl; omega)).mono ?_
  rintro e w9 ⟨rfl, hst⟩
  have H9 := hide hst
  have c1 := hst.cell 1; have c2 := hst.cell 2; have c3 := hst.cell 3; have c4 := hst.cell 4; have c6 := hst.cell 6; have c7 := hst.cell 7; have c8 := hst.cell 8
  simp at c1 c2 c3 c4 c6 c7 c8
  clear hst
  go_wp2_with fail
  clear c1 c2 c3 c4 c6 c7 c8
  refine (wE H9.out).mono ?_
  rintro e w' ⟨rfl, hb⟩
  have HB := hide hb
  clear hb
  go_wp2_with fail
  rw [← HQ.out]
  refine ⟨?_, HB.out⟩
  show Ending.returned (.string _) = .returned (.string _)
  congr 3
  simp [joinL, L]
theorem str18 (sc au pa qu fr : ByteArray) (b1 b2 b3 b4 : Bool) (w : World) (hs : (sc.size : Int) + au.size + pa.size + qu.size + fr.size ≤ 2097152) :
    Calls Tryd.prog 18 #[.agg #[.string sc, .string au, .string pa, .string qu, .string fr, .bool b1, .bool b2, .bool b3, .bool b4]] w fun e w' => e = .returned (.string (ofL (joinL (L sc) (L au) (L pa) (L qu) (L fr) b1 b2 b3 b4))) ∧ Below w.heap.size w w' := by
  cases b1 <;> cases b2 <;> cases b3 <;> cases b4
  · exact str_0000 sc au pa qu fr w hs
  · exact str_0001 sc au pa qu fr w hs
  · exact str_0010 sc au pa qu fr w hs
  · exact str_0011 sc au pa qu fr w hs
  · exact str_0100 sc au pa qu fr w hs
  · exact str_0101 sc au pa qu fr w hs
  · exact str_0110 sc au pa qu fr w hs
  · exact str_0111 sc au pa qu fr w hs
  · exact str_1000 sc au pa qu fr w hs
  · exact str_1001 sc au pa qu fr w hs
  · exact str_1010 sc au pa qu fr w hs
  · exact str_1011 sc au pa qu fr w hs
  · exact str_1100 sc au pa qu fr w hs
  · exact str_1101 sc au pa qu fr w hs
  · exact str_1110 sc au pa qu fr w hs
  · exact str_1111 sc au pa qu fr w hs
end Go.Proofs.Qxb6614616aDoor
