/-
  FnWithoutDotSegmentsIsFinal answers true, whatever the input.
-/
import Derived.Test.Qxb6614616aDoorG2
import Derived.Test.Qxb6614616aDoorG3
namespace Go.Proofs.Qxb6614616aDoor
open Go.RowKit
set_option linter.unusedSimpArgs false
set_option maxHeartbeats 4000000 in
set_option maxRecDepth 1000000 in
theorem law4_diff (ref sc au pa qu fr : ByteArray) (b1 b2 b3 b4 : Bool) (w : World)
    (l0 : (ref.size : Int) ≤ 131072) (l1 : (sc.size : Int) ≤ 131072) (l2 : (au.size : Int) ≤ 131072) (l3 : (pa.size : Int) ≤ 131072) (l4 : (qu.size : Int) ≤ 131072) (l5 : (fr.size : Int) ≤ 131072)
    (h : L ref ≠ joinL (L sc) (L au) (L pa) (L qu) (L fr) b1 b2 b3 b4) :
    Calls Tryd.prog 4 #[.string ref, .string sc, .string au, .string pa, .string qu, .string fr, .bool b1, .bool b2, .bool b3, .bool b4] w fun e w' => e = .returned (.bool true) ∧ Below w.heap.size w w' := by
  have HZ := hide (zz9 ref sc au pa qu fr b1 b2 b3 b4 w (by omega))
  have HJ := hide (join6 sc au pa qu fr b1 b2 b3 b4 w (by omega))
  have hne : ¬ (ref.toList = (ofL (joinL (L sc) (L au) (L pa) (L qu) (L fr) b1 b2 b3 b4)).toList) := by
    rw [tl_L, tl_L, L_ofL]; exact h
  generalize ofL (joinL (L sc) (L au) (L pa) (L qu) (L fr) b1 b2 b3 b4) = jb at HJ hne
  have hnb : (ref.toList == jb.toList) = false := by simpa using hne
  generalize hQ : (fun (e : Ending) (w' : World) => e = .returned (.bool true) ∧ Below w.heap.size w w') = Q
  have HQ := hide hQ
  clear hQ h
  go_enter Tryd.func4, Tryd.ntmps4
  go_wp2_with fail
  refine (unhide HZ).mono ?_
  rintro e w0 ⟨rfl, h0⟩
  obtain rfl : w = w0 := h0.symm
  clear h0 HZ
  go_wp2_with fail
  refine (unhide HJ).mono ?_
  rintro e W1 ⟨rfl, hB1⟩
  have HB1 := hide hB1
  clear hB1
  go_wp2_with fail
  rw [← HQ.out]
  exact ⟨rfl, HB1.out⟩
theorem ls_suffix (l : List UInt8) : ∀ acc, ∃ u, acc ++ l = u ++ ls acc l := by
  induction l with
  | nil => intro acc; exact ⟨[], by simp [ls]⟩
  | cons b t ih =>
    intro acc
    by_cases hb : b = 47
    · obtain ⟨u, hu⟩ := ih []
      refine ⟨acc ++ [b] ++ u, ?_⟩
      rw [ls, if_pos hb, List.append_assoc, ← hu]
      simp
    · obtain ⟨u, hu⟩ := ih (acc ++ [b])
      refine ⟨u, ?_⟩
      rw [ls, if_neg hb, ← hu]
      simp
theorem join_split (sc au k qu fr : List UInt8) (b1 b2 b3 b4 : Bool) : joinL sc au k qu fr b1 b2 b3 b4 = joinL sc au [] [] [] b1 b2 false false ++ (k ++ joinL [] [] [] qu fr false false b3 b4) := by
  simp [joinL]
theorem law4_same (ref sc au pa qu fr : ByteArray) (b1 b2 b3 b4 : Bool) (w : World)
    (l0 : (ref.size : Int) ≤ 131072) (l1 : (sc.size : Int) ≤ 131072) (l2 : (au.size : Int) ≤ 131072) (l3 : (pa.size : Int) ≤ 131072) (l4 : (qu.size : Int) ≤ 131072) (l5 : (fr.size : Int) ≤ 131072)
    (h : L ref = joinL (L sc) (L au) (L pa) (L qu) (L fr) b1 b2 b3 b4) :
    Calls Tryd.prog 4 #[.string ref, .string sc, .string au, .string pa, .string qu, .string fr, .bool b1, .bool b2, .bool b3, .bool b4] w fun e w' => e = .returned (.bool true) ∧ Below w.heap.size w w' := by
  obtain ⟨pre, hpre⟩ : ∃ pre, joinL (L sc) (L au) [] [] [] b1 b2 false false = pre := ⟨_, rfl⟩
  obtain ⟨suf, hsuf⟩ : ∃ suf, joinL [] [] [] (L qu) (L fr) false false b3 b4 = suf := ⟨_, rfl⟩
  obtain ⟨K, hK⟩ : ∃ K, (if holdsDot (L pa) then removeP (L pa) else L pa) = K := ⟨_, rfl⟩
  have hfin : holdsDot K = false := by
    rw [← hK]
    by_cases hd : holdsDot (L pa) = true
    · rw [if_pos hd]; exact remove_final _
    · rw [if_neg hd]; simpa using hd
  have hKlen : K.length ≤ (L pa).length := by
    rw [← hK]
    by_cases hd : holdsDot (L pa) = true
    · rw [if_pos hd]; exact remove_len _
    · rw [if_neg hd]; exact Nat.le_refl _
  have hlast : isDot (lastSeg (L pa)) = false → ∃ u, K = u ++ lastSeg (L pa) := by
    intro hl
    rw [← hK]
    by_cases hd : holdsDot (L pa) = true
    · rw [if_pos hd]; exact remove_last _ hl
    · rw [if_neg hd]; exact ls_suffix (L pa) []
  have hjoin : ∀ k, joinL (L sc) (L au) k (L qu) (L fr) b1 b2 b3 b4 = pre ++ (k ++ suf) := fun k => by rw [join_split, hpre, hsuf]
  have hrefs : ref.size = pre.length + ((L pa).length + suf.length) := by rw [← L_len, h, hjoin, List.length_append, List.length_append]
  have hgot : (if holdsDot (L pa) then ofL (joinL (L sc) (L au) (removeP (L pa)) (L qu) (L fr) b1 b2 b3 b4) else ref) = ofL (pre ++ (K ++ suf)) := by
    rw [← hK]
    by_cases hd : holdsDot (L pa) = true
    · rw [if_pos hd, if_pos hd, hjoin]
    · rw [if_neg hd, if_neg hd, ← hjoin, ← h, ofL_L]
  obtain ⟨got, hg⟩ : ∃ got, ofL (pre ++ (K ++ suf)) = got := ⟨_, rfl⟩
  have hgl : L got = pre ++ (K ++ suf) := by rw [← hg, L_ofL]
  have hgsz : got.size = pre.length + (K.length + suf.length) := by rw [← L_len, hgl, List.length_append, List.length_append]
  have hksz : (ofL K).size = K.length := size_ofL K
  have hlsz : (ofL (lastSeg (L pa))).size = (lastSeg (L pa)).length := size_ofL _
  have z0 : (ByteArray.mk #[]).size = 0 := rfl
  have hpas := L_len pa
  have hll : (lastSeg (L pa)).length ≤ (L pa).length := by
    obtain ⟨u, hu⟩ := ls_suffix (L pa) []
    rw [List.nil_append] at hu
    have := congrArg List.length hu
    rw [List.length_append] at this
    show (ls [] (L pa)).length ≤ _
    omega
  refine law4_core ref sc au pa qu fr got (ofL pre) (ofL suf) (ofL K) (ofL (lastSeg (L pa))) b1 b2 b3 b4 (holdsDot (L pa)) w (hide ⟨?_, ?_, ?_, ?_, ?_, ?_, ?_, ?_, ?_⟩) l0 l1 l2 l3 l4 l5 ?_ ?_ ?_ ?_ ?_ ?_ ?_
  · exact fun W => zz9 ref sc au pa qu fr b1 b2 b3 b4 W (by omega)
  · intro W
    have := join6 sc au pa qu fr b1 b2 b3 b4 W (by omega)
    rw [← h, ofL_L] at this
    exact this
  · intro W
    have := zz7 ref sc au pa qu fr b1 b2 b3 b4 W (by omega)
    rw [hgot, hg] at this
    exact this
  · intro W
    have := join6 sc au ⟨#[]⟩ ⟨#[]⟩ ⟨#[]⟩ b1 b2 false false W (by omega)
    have e : L (ByteArray.mk #[]) = [] := rfl
    rw [e, hpre] at this
    exact this
  · intro W
    have := join6 ⟨#[]⟩ ⟨#[]⟩ ⟨#[]⟩ qu fr false false b3 b4 W (by omega)
    have e : L (ByteArray.mk #[]) = [] := rfl
    rw [e, hsuf] at this
    exact this
  · exact fun W => holds10 (ofL K) W (by omega) false (by rw [L_ofL]; exact hfin)
  · exact fun W => holds10 pa W (by omega) _ rfl
  · exact fun W => last11 pa W (by omega)
  · intro W
    have := zz7 got sc au (ofL K) qu fr b1 b2 b3 b4 W (by omega)
    rw [L_ofL, hfin] at this
    exact this
  · rw [size_ofL pre, size_ofL suf]; omega
  · omega
  · apply L_inj
    rw [L_ext, hgl, List.drop_zero, Nat.sub_zero, size_ofL pre, List.take_left, L_ofL]
  · apply L_inj
    have e : got.size - (ofL suf).size = (pre ++ K).length := by rw [size_ofL suf, List.length_append]; omega
    rw [L_ext, hgl, e, ← List.append_assoc, List.drop_left, L_ofL, List.take_of_length_le (by rw [List.length_append]; omega)]
  · apply L_inj
    have e : got.size - (ofL suf).size - (ofL pre).size = K.length := by rw [size_ofL suf, size_ofL pre]; omega
    rw [L_ext, hgl, e, size_ofL pre, List.drop_left, List.take_left, L_ofL]
  · rw [tl_L, L_ofL]
    by_cases h1 : lastSeg (L pa) = [46]
    · exact .inl h1
    · by_cases h2 : lastSeg (L pa) = [46, 46]
      · exact .inr (.inl ⟨h1, h2⟩)
      · refine .inr (.inr ⟨h1, h2, hide fun W => suf12 _ _ W (by omega) (by omega) true ?_⟩)
        have hdt : isDot (lastSeg (L pa)) = false := by unfold isDot; simp [h1, h2]
        obtain ⟨u, hu⟩ := hlast hdt
        have hul := congrArg List.length hu
        rw [List.length_append] at hul
        rw [hksz, hlsz, L_ofL, L_ofL]
        have e1 : decide ((lastSeg (L pa)).length ≤ K.length) = true := by simp; omega
        have e2 : K.length - (lastSeg (L pa)).length = u.length := by omega
        rw [e1, e2, Bool.true_and]
        conv => rhs; rw [hu]
        rw [List.drop_left]
        simp
  · cases hd : holdsDot (L pa) with
    | true => exact .inl rfl
    | false =>
      refine .inr ⟨rfl, ?_⟩
      rw [tl_L, tl_L, hgl, h, hjoin, ← hK, hd]
      rfl
theorem law4 (ref sc au pa qu fr : ByteArray) (b1 b2 b3 b4 : Bool) (w : World) :
    Calls Tryd.prog 4 #[.string ref, .string sc, .string au, .string pa, .string qu, .string fr, .bool b1, .bool b2, .bool b3, .bool b4] w fun e w' => e = .returned (.bool true) ∧ Below w.heap.size w w' := by
  by_cases hb : (ref.size : Int) ≤ 131072 ∧ (sc.size : Int) ≤ 131072 ∧ (au.size : Int) ≤ 131072 ∧ (pa.size : Int) ≤ 131072 ∧ (qu.size : Int) ≤ 131072 ∧ (fr.size : Int) ≤ 131072
  · obtain ⟨l0, l1, l2, l3, l4, l5⟩ := hb
    by_cases hj : L ref = joinL (L sc) (L au) (L pa) (L qu) (L fr) b1 b2 b3 b4
    · exact law4_same ref sc au pa qu fr b1 b2 b3 b4 w l0 l1 l2 l3 l4 l5 hj
    · exact law4_diff ref sc au pa qu fr b1 b2 b3 b4 w l0 l1 l2 l3 l4 l5 hj
  · exact law4_long ref sc au pa qu fr b1 b2 b3 b4 w hb
end Go.Proofs.Qxb6614616aDoor
