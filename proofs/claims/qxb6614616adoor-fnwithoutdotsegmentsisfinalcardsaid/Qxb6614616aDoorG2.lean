/-
  ZZwithoutDotSegments; the bound on the lengths, whatever they are; the early ways out of the law.
-/
import Derived.Test.Qxb6614616aDoorG1
namespace Go.Proofs.Qxb6614616aDoor
open Go.RowKit
set_option linter.unusedSimpArgs false
set_option maxHeartbeats 4000000 in
set_option maxRecDepth 100000 in
theorem zz7 (ref sc au pa qu fr : ByteArray) (b1 b2 b3 b4 : Bool) (w : World) (hs : (sc.size : Int) + au.size + pa.size + qu.size + fr.size ≤ 1048576) :
    Calls Tryd.prog 7 #[.string ref, .string sc, .string au, .string pa, .string qu, .string fr, .bool b1, .bool b2, .bool b3, .bool b4] w fun e w' => e = .returned (.string (if holdsDot (L pa) then ofL (joinL (L sc) (L au) (removeP (L pa)) (L qu) (L fr) b1 b2 b3 b4) else ref)) ∧ Below w.heap.size w w' := by
  have H := hide (without13 ref sc au pa qu fr b1 b2 b3 b4 w hs)
  generalize (if holdsDot (L pa) then ofL (joinL (L sc) (L au) (removeP (L pa)) (L qu) (L fr) b1 b2 b3 b4) else ref) = out at H ⊢
  clear hs
  go_enter Tryd.func7, Tryd.ntmps7
  go_wp2_with fail
  refine (unhide H).mono ?_
  rintro e w' ⟨rfl, hB⟩
  have HB := hide hB
  clear hB
  go_wp2_with fail
  first | exact ⟨rfl, HB.out⟩ | (go_ret; exact ⟨rfl, HB.out⟩)
set_option maxHeartbeats 4000000 in
set_option maxRecDepth 100000 in
theorem zz9_any (a b c d e f : ByteArray) (b1 b2 b3 b4 : Bool) (w : World) :
    Calls Tryd.prog 9 #[.string a, .string b, .string c, .string d, .string e, .string f, .bool b1, .bool b2, .bool b3, .bool b4] w fun e w' => ∃ x, e = .returned (.bool x) ∧ w' = w := by
  go_enter Tryd.func9, Tryd.ntmps9
  go_wp2
  all_goals (go_ret; exact ⟨_, rfl, rfl⟩)
set_option maxHeartbeats 4000000 in
set_option maxRecDepth 100000 in
theorem law4_long (ref sc au pa qu fr : ByteArray) (b1 b2 b3 b4 : Bool) (w : World)
    (h : ¬ ((ref.size : Int) ≤ 131072 ∧ (sc.size : Int) ≤ 131072 ∧ (au.size : Int) ≤ 131072 ∧ (pa.size : Int) ≤ 131072 ∧ (qu.size : Int) ≤ 131072 ∧ (fr.size : Int) ≤ 131072)) :
    Calls Tryd.prog 4 #[.string ref, .string sc, .string au, .string pa, .string qu, .string fr, .bool b1, .bool b2, .bool b3, .bool b4] w fun e w' => e = .returned (.bool true) ∧ Below w.heap.size w w' := by
  have HZ := hide (zz9_any ref sc au pa qu fr b1 b2 b3 b4 w)
  generalize hQ : (fun (e : Ending) (w' : World) => e = .returned (.bool true) ∧ Below w.heap.size w w') = Q
  have HQ := hide hQ
  have hend : Hid (Below w.heap.size w w) := hide (Below.refl _ _)
  clear hQ
  have hc : (131073 ≤ (ref.size : Int)) ∨ ((ref.size : Int) ≤ 131072 ∧ 131073 ≤ (sc.size : Int)) ∨ ((ref.size : Int) ≤ 131072 ∧ (sc.size : Int) ≤ 131072 ∧ 131073 ≤ (au.size : Int)) ∨ ((ref.size : Int) ≤ 131072 ∧ (sc.size : Int) ≤ 131072 ∧ (au.size : Int) ≤ 131072 ∧ 131073 ≤ (pa.size : Int)) ∨ ((ref.size : Int) ≤ 131072 ∧ (sc.size : Int) ≤ 131072 ∧ (au.size : Int) ≤ 131072 ∧ (pa.size : Int) ≤ 131072 ∧ 131073 ≤ (qu.size : Int)) ∨ ((ref.size : Int) ≤ 131072 ∧ (sc.size : Int) ≤ 131072 ∧ (au.size : Int) ≤ 131072 ∧ (pa.size : Int) ≤ 131072 ∧ (qu.size : Int) ≤ 131072 ∧ 131073 ≤ (fr.size : Int)) := by omega
  clear h
  rcases hc with h | ⟨h1, h⟩ | ⟨h1, h2, h⟩ | ⟨h1, h2, h3, h⟩ | ⟨h1, h2, h3, h4, h⟩ | ⟨h1, h2, h3, h4, h5, h⟩
  all_goals (
    go_enter Tryd.func4, Tryd.ntmps4
    go_wp2_with fail
    refine (unhide HZ).mono ?_
    rintro e w0 ⟨x, rfl, h0⟩
    obtain rfl : w = w0 := h0.symm
    clear h0 HZ
    cases x
    · go_wp2_with fail
      rw [← HQ.out]
      exact ⟨rfl, hend.out⟩
    · go_wp2_with fail
      rw [← HQ.out]
      exact ⟨rfl, hend.out⟩)
end Go.Proofs.Qxb6614616aDoor
