/-
  The law's walk, over its callees' answers.
-/
import Derived.Test.Qxb6614616aDoorG1
namespace Go.Proofs.Qxb6614616aDoor
open Go.RowKit
set_option linter.unusedSimpArgs false
structure Ans (ref sc au pa qu fr got preB sufB kp lastB : ByteArray) (b1 b2 b3 b4 d : Bool) : Prop where
  z9 : ∀ W, Calls Tryd.prog 9 #[.string ref, .string sc, .string au, .string pa, .string qu, .string fr, .bool b1, .bool b2, .bool b3, .bool b4] W fun e w' => e = .returned (.bool true) ∧ w' = W
  j6 : ∀ W, Calls Tryd.prog 6 #[.string sc, .string au, .string pa, .string qu, .string fr, .bool b1, .bool b2, .bool b3, .bool b4] W fun e w' => e = .returned (.string ref) ∧ Below W.heap.size W w'
  g7 : ∀ W, Calls Tryd.prog 7 #[.string ref, .string sc, .string au, .string pa, .string qu, .string fr, .bool b1, .bool b2, .bool b3, .bool b4] W fun e w' => e = .returned (.string got) ∧ Below W.heap.size W w'
  p6 : ∀ W, Calls Tryd.prog 6 #[.string sc, .string au, .string ⟨#[]⟩, .string ⟨#[]⟩, .string ⟨#[]⟩, .bool b1, .bool b2, .bool false, .bool false] W fun e w' => e = .returned (.string preB) ∧ Below W.heap.size W w'
  s6 : ∀ W, Calls Tryd.prog 6 #[.string ⟨#[]⟩, .string ⟨#[]⟩, .string ⟨#[]⟩, .string qu, .string fr, .bool false, .bool false, .bool b3, .bool b4] W fun e w' => e = .returned (.string sufB) ∧ Below W.heap.size W w'
  k10 : ∀ W, Calls Tryd.prog 10 #[.string kp] W fun e w' => e = .returned (.bool false) ∧ w' = W
  d10 : ∀ W, Calls Tryd.prog 10 #[.string pa] W fun e w' => e = .returned (.bool d) ∧ w' = W
  l11 : ∀ W, Calls Tryd.prog 11 #[.string pa] W fun e w' => e = .returned (.string lastB) ∧ w' = W
  a7 : ∀ W, Calls Tryd.prog 7 #[.string got, .string sc, .string au, .string kp, .string qu, .string fr, .bool b1, .bool b2, .bool b3, .bool b4] W fun e w' => e = .returned (.string got) ∧ Below W.heap.size W w'
set_option maxHeartbeats 40000000 in
set_option maxRecDepth 1000000 in
theorem law4_core (ref sc au pa qu fr got preB sufB kp lastB : ByteArray) (b1 b2 b3 b4 d : Bool) (w : World) (HA : Hid (Ans ref sc au pa qu fr got preB sufB kp lastB b1 b2 b3 b4 d))
    (l0 : (ref.size : Int) ≤ 131072) (l1 : (sc.size : Int) ≤ 131072) (l2 : (au.size : Int) ≤ 131072) (l3 : (pa.size : Int) ≤ 131072) (l4 : (qu.size : Int) ≤ 131072) (l5 : (fr.size : Int) ≤ 131072)
    (hgs : (preB.size : Int) + sufB.size ≤ got.size) (hle : (got.size : Int) ≤ ref.size)
    (e1 : got.extract 0 preB.size = preB) (e2 : got.extract (got.size - sufB.size) got.size = sufB) (e3 : got.extract preB.size (got.size - sufB.size) = kp)
    (hlast : lastB.toList = [46] ∨ (¬ (lastB.toList = [46]) ∧ lastB.toList = [46, 46]) ∨ (¬ (lastB.toList = [46]) ∧ ¬ (lastB.toList = [46, 46]) ∧ Hid (∀ W, Calls Tryd.prog 12 #[.string kp, .string lastB] W fun e w' => e = .returned (.bool true) ∧ w' = W)))
    (hdr : d = true ∨ (d = false ∧ got.toList = ref.toList)) :
    Calls Tryd.prog 4 #[.string ref, .string sc, .string au, .string pa, .string qu, .string fr, .bool b1, .bool b2, .bool b3, .bool b4] w fun e w' => e = .returned (.bool true) ∧ Below w.heap.size w w' := by
  generalize hQ : (fun (e : Ending) (w' : World) => e = .returned (.bool true) ∧ Below w.heap.size w w') = Q
  have HQ := hide hQ
  clear hQ
  rcases hlast with n1 | ⟨n1, n2⟩ | ⟨n1, n2, H12⟩
  · rcases hdr with hd | ⟨hd, hgr⟩
    · subst hd
      go_enter Tryd.func4, Tryd.ntmps4
      go_wp2_with fail
      refine (HA.out.z9 _).mono ?_
      rintro e w0 ⟨rfl, h0⟩
      obtain rfl : w = w0 := h0.symm
      clear h0
      go_wp2_with fail
      refine (HA.out.j6 _).mono ?_
      rintro e W1 ⟨rfl, hB1⟩
      have HB1 := hide hB1
      clear hB1
      go_wp2_with fail
      refine (HA.out.g7 _).mono ?_
      rintro e W2 ⟨rfl, hB2⟩
      have HB2 := hide (HB1.out.trans (hB2.mono HB1.out.size))
      clear hB2
      go_wp2_with fail
      refine (HA.out.p6 _).mono ?_
      rintro e W3 ⟨rfl, hB3⟩
      have HB3 := hide (HB2.out.trans (hB3.mono HB2.out.size))
      clear hB3
      go_wp2_with fail
      refine (HA.out.s6 _).mono ?_
      rintro e W4 ⟨rfl, hB4⟩
      have HB4 := hide (HB3.out.trans (hB4.mono HB3.out.size))
      clear hB4
      go_wp2_with fail
      refine (HA.out.k10 _).mono ?_
      rintro e w0 ⟨rfl, h0⟩
      obtain rfl : W4 = w0 := h0.symm
      clear h0
      go_wp2_with fail
      refine (HA.out.d10 _).mono ?_
      rintro e w0 ⟨rfl, h0⟩
      obtain rfl : W4 = w0 := h0.symm
      clear h0
      go_wp2_with fail
      refine (HA.out.l11 _).mono ?_
      rintro e w0 ⟨rfl, h0⟩
      obtain rfl : W4 = w0 := h0.symm
      clear h0
      go_wp2_with fail
      refine (HA.out.a7 _).mono ?_
      rintro e W5 ⟨rfl, hB5⟩
      have HB5 := hide (HB4.out.trans (hB5.mono HB4.out.size))
      clear hB5
      go_wp2_with fail
      rw [← HQ.out]
      exact ⟨rfl, HB5.out⟩
    · subst hd
      go_enter Tryd.func4, Tryd.ntmps4
      go_wp2_with fail
      refine (HA.out.z9 _).mono ?_
      rintro e w0 ⟨rfl, h0⟩
      obtain rfl : w = w0 := h0.symm
      clear h0
      go_wp2_with fail
      refine (HA.out.j6 _).mono ?_
      rintro e W1 ⟨rfl, hB1⟩
      have HB1 := hide hB1
      clear hB1
      go_wp2_with fail
      refine (HA.out.g7 _).mono ?_
      rintro e W2 ⟨rfl, hB2⟩
      have HB2 := hide (HB1.out.trans (hB2.mono HB1.out.size))
      clear hB2
      go_wp2_with fail
      refine (HA.out.p6 _).mono ?_
      rintro e W3 ⟨rfl, hB3⟩
      have HB3 := hide (HB2.out.trans (hB3.mono HB2.out.size))
      clear hB3
      go_wp2_with fail
      refine (HA.out.s6 _).mono ?_
      rintro e W4 ⟨rfl, hB4⟩
      have HB4 := hide (HB3.out.trans (hB4.mono HB3.out.size))
      clear hB4
      go_wp2_with fail
      refine (HA.out.k10 _).mono ?_
      rintro e w0 ⟨rfl, h0⟩
      obtain rfl : W4 = w0 := h0.symm
      clear h0
      go_wp2_with fail
      refine (HA.out.d10 _).mono ?_
      rintro e w0 ⟨rfl, h0⟩
      obtain rfl : W4 = w0 := h0.symm
      clear h0
      go_wp2_with fail
      refine (HA.out.l11 _).mono ?_
      rintro e w0 ⟨rfl, h0⟩
      obtain rfl : W4 = w0 := h0.symm
      clear h0
      go_wp2_with fail
      refine (HA.out.a7 _).mono ?_
      rintro e W5 ⟨rfl, hB5⟩
      have HB5 := hide (HB4.out.trans (hB5.mono HB4.out.size))
      clear hB5
      go_wp2_with fail
      rw [← HQ.out]
      exact ⟨rfl, HB5.out⟩
  · rcases hdr with hd | ⟨hd, hgr⟩
    · subst hd
      go_enter Tryd.func4, Tryd.ntmps4
      go_wp2_with fail
      refine (HA.out.z9 _).mono ?_
      rintro e w0 ⟨rfl, h0⟩
      obtain rfl : w = w0 := h0.symm
      clear h0
      go_wp2_with fail
      refine (HA.out.j6 _).mono ?_
      rintro e W1 ⟨rfl, hB1⟩
      have HB1 := hide hB1
      clear hB1
      go_wp2_with fail
      refine (HA.out.g7 _).mono ?_
      rintro e W2 ⟨rfl, hB2⟩
      have HB2 := hide (HB1.out.trans (hB2.mono HB1.out.size))
      clear hB2
      go_wp2_with fail
      refine (HA.out.p6 _).mono ?_
      rintro e W3 ⟨rfl, hB3⟩
      have HB3 := hide (HB2.out.trans (hB3.mono HB2.out.size))
      clear hB3
      go_wp2_with fail
      refine (HA.out.s6 _).mono ?_
      rintro e W4 ⟨rfl, hB4⟩
      have HB4 := hide (HB3.out.trans (hB4.mono HB3.out.size))
      clear hB4
      go_wp2_with fail
      refine (HA.out.k10 _).mono ?_
      rintro e w0 ⟨rfl, h0⟩
      obtain rfl : W4 = w0 := h0.symm
      clear h0
      go_wp2_with fail
      refine (HA.out.d10 _).mono ?_
      rintro e w0 ⟨rfl, h0⟩
      obtain rfl : W4 = w0 := h0.symm
      clear h0
      go_wp2_with fail
      refine (HA.out.l11 _).mono ?_
      rintro e w0 ⟨rfl, h0⟩
      obtain rfl : W4 = w0 := h0.symm
      clear h0
      go_wp2_with fail
      refine (HA.out.a7 _).mono ?_
      rintro e W5 ⟨rfl, hB5⟩
      have HB5 := hide (HB4.out.trans (hB5.mono HB4.out.size))
      clear hB5
      go_wp2_with fail
      rw [← HQ.out]
      exact ⟨rfl, HB5.out⟩
    · subst hd
      go_enter Tryd.func4, Tryd.ntmps4
      go_wp2_with fail
      refine (HA.out.z9 _).mono ?_
      rintro e w0 ⟨rfl, h0⟩
      obtain rfl : w = w0 := h0.symm
      clear h0
      go_wp2_with fail
      refine (HA.out.j6 _).mono ?_
      rintro e W1 ⟨rfl, hB1⟩
      have HB1 := hide hB1
      clear hB1
      go_wp2_with fail
      refine (HA.out.g7 _).mono ?_
      rintro e W2 ⟨rfl, hB2⟩
      have HB2 := hide (HB1.out.trans (hB2.mono HB1.out.size))
      clear hB2
      go_wp2_with fail
      refine (HA.out.p6 _).mono ?_
      rintro e W3 ⟨rfl, hB3⟩
      have HB3 := hide (HB2.out.trans (hB3.mono HB2.out.size))
      clear hB3
      go_wp2_with fail
      refine (HA.out.s6 _).mono ?_
      rintro e W4 ⟨rfl, hB4⟩
      have HB4 := hide (HB3.out.trans (hB4.mono HB3.out.size))
      clear hB4
      go_wp2_with fail
      refine (HA.out.k10 _).mono ?_
      rintro e w0 ⟨rfl, h0⟩
      obtain rfl : W4 = w0 := h0.symm
      clear h0
      go_wp2_with fail
      refine (HA.out.d10 _).mono ?_
      rintro e w0 ⟨rfl, h0⟩
      obtain rfl : W4 = w0 := h0.symm
      clear h0
      go_wp2_with fail
      refine (HA.out.l11 _).mono ?_
      rintro e w0 ⟨rfl, h0⟩
      obtain rfl : W4 = w0 := h0.symm
      clear h0
      go_wp2_with fail
      refine (HA.out.a7 _).mono ?_
      rintro e W5 ⟨rfl, hB5⟩
      have HB5 := hide (HB4.out.trans (hB5.mono HB4.out.size))
      clear hB5
      go_wp2_with fail
      rw [← HQ.out]
      exact ⟨rfl, HB5.out⟩
  · rcases hdr with hd | ⟨hd, hgr⟩
    · subst hd
      go_enter Tryd.func4, Tryd.ntmps4
      go_wp2_with fail
      refine (HA.out.z9 _).mono ?_
      rintro e w0 ⟨rfl, h0⟩
      obtain rfl : w = w0 := h0.symm
      clear h0
      go_wp2_with fail
      refine (HA.out.j6 _).mono ?_
      rintro e W1 ⟨rfl, hB1⟩
      have HB1 := hide hB1
      clear hB1
      go_wp2_with fail
      refine (HA.out.g7 _).mono ?_
      rintro e W2 ⟨rfl, hB2⟩
      have HB2 := hide (HB1.out.trans (hB2.mono HB1.out.size))
      clear hB2
      go_wp2_with fail
      refine (HA.out.p6 _).mono ?_
      rintro e W3 ⟨rfl, hB3⟩
      have HB3 := hide (HB2.out.trans (hB3.mono HB2.out.size))
      clear hB3
      go_wp2_with fail
      refine (HA.out.s6 _).mono ?_
      rintro e W4 ⟨rfl, hB4⟩
      have HB4 := hide (HB3.out.trans (hB4.mono HB3.out.size))
      clear hB4
      go_wp2_with fail
      refine (HA.out.k10 _).mono ?_
      rintro e w0 ⟨rfl, h0⟩
      obtain rfl : W4 = w0 := h0.symm
      clear h0
      go_wp2_with fail
      refine (HA.out.d10 _).mono ?_
      rintro e w0 ⟨rfl, h0⟩
      obtain rfl : W4 = w0 := h0.symm
      clear h0
      go_wp2_with fail
      refine (HA.out.l11 _).mono ?_
      rintro e w0 ⟨rfl, h0⟩
      obtain rfl : W4 = w0 := h0.symm
      clear h0
      go_wp2_with fail
      refine (unhide H12 _).mono ?_
      rintro e w0 ⟨rfl, h0⟩
      obtain rfl : W4 = w0 := h0.symm
      clear h0
      go_wp2_with fail
      refine (HA.out.a7 _).mono ?_
      rintro e W5 ⟨rfl, hB5⟩
      have HB5 := hide (HB4.out.trans (hB5.mono HB4.out.size))
      clear hB5
      go_wp2_with fail
      rw [← HQ.out]
      exact ⟨rfl, HB5.out⟩
    · subst hd
      go_enter Tryd.func4, Tryd.ntmps4
      go_wp2_with fail
      refine (HA.out.z9 _).mono ?_
      rintro e w0 ⟨rfl, h0⟩
      obtain rfl : w = w0 := h0.symm
      clear h0
      go_wp2_with fail
      refine (HA.out.j6 _).mono ?_
      rintro e W1 ⟨rfl, hB1⟩
      have HB1 := hide hB1
      clear hB1
      go_wp2_with fail
      refine (HA.out.g7 _).mono ?_
      rintro e W2 ⟨rfl, hB2⟩
      have HB2 := hide (HB1.out.trans (hB2.mono HB1.out.size))
      clear hB2
      go_wp2_with fail
      refine (HA.out.p6 _).mono ?_
      rintro e W3 ⟨rfl, hB3⟩
      have HB3 := hide (HB2.out.trans (hB3.mono HB2.out.size))
      clear hB3
      go_wp2_with fail
      refine (HA.out.s6 _).mono ?_
      rintro e W4 ⟨rfl, hB4⟩
      have HB4 := hide (HB3.out.trans (hB4.mono HB3.out.size))
      clear hB4
      go_wp2_with fail
      refine (HA.out.k10 _).mono ?_
      rintro e w0 ⟨rfl, h0⟩
      obtain rfl : W4 = w0 := h0.symm
      clear h0
      go_wp2_with fail
      refine (HA.out.d10 _).mono ?_
      rintro e w0 ⟨rfl, h0⟩
      obtain rfl : W4 = w0 := h0.symm
      clear h0
      go_wp2_with fail
      refine (HA.out.l11 _).mono ?_
      rintro e w0 ⟨rfl, h0⟩
      obtain rfl : W4 = w0 := h0.symm
      clear h0
      go_wp2_with fail
      refine (unhide H12 _).mono ?_
      rintro e w0 ⟨rfl, h0⟩
      obtain rfl : W4 = w0 := h0.symm
      clear h0
      go_wp2_with fail
      refine (HA.out.a7 _).mono ?_
      rintro e W5 ⟨rfl, hB5⟩
      have HB5 := hide (HB4.out.trans (hB5.mono HB4.out.size))
      clear hB5
      go_wp2_with fail
      rw [← HQ.out]
      exact ⟨rfl, HB5.out⟩
end Go.Proofs.Qxb6614616aDoor
