/-
  removeDotSegments, walked.
-/
import Derived.Test.Qxb6614616aDoorD4
import Derived.Test.Qxb6614616aDoorD5
namespace Go.Proofs.Qxb6614616aDoor
open Go.RowKit
set_option linter.unusedSimpArgs false
theorem step_ne (t : List UInt8) (slash last : Bool) (kept : List (List UInt8)) (h : ∀ x ∈ kept, x ≠ []) : ∀ x ∈ (stepP t slash last kept).1, x ≠ [] := by
  unfold stepP
  by_cases hc : t = [] ∨ isDot t = true
  · rw [if_pos hc]
    intro x hx
    rcases List.mem_append.1 hx with hx | hx
    · split at hx
      · rw [List.mem_singleton] at hx; subst hx; simp
      · cases hx
    · split at hx
      · exact h x (List.mem_of_mem_tail hx)
      · exact h x hx
  · rw [if_neg hc]
    intro x hx
    rcases List.mem_cons.1 hx with rfl | hx
    · have := (not_or.1 hc).1
      intro e
      exact this (List.append_eq_nil_iff.1 e).2
    · exact h x hx
theorem read_ne : ∀ (n : Nat) (body : List UInt8) (slash : Bool) (kept : List (List UInt8)), (∀ x ∈ kept, x ≠ []) → ∀ x ∈ readP n body slash kept, x ≠ []
  | 0, _, _, _, h => h
  | n + 1, body, slash, kept, h => by
    unfold readP
    split
    · exact step_ne _ _ _ _ h
    · exact read_ne n _ _ _ (step_ne _ _ _ _ h)
theorem rem17 (s : ByteArray) (w : World) (hs : (s.size : Int) ≤ 1048576) : Calls Tryd.prog 17 #[.string s] w fun e w' => e = .returned (.string (ofL (removeP (L s)))) ∧ Below w.heap.size w w' := by
  obtain ⟨RES, hres⟩ : ∃ RES, readP ((L s).length + 1) (bodyOf (L s)) (opens (L s)) [] = RES := ⟨_, rfl⟩
  have hrm : removeP (L s) = flat RES := by rw [← hres]; rfl
  have hlen := remove_len (L s)
  rw [hrm, L_len] at hlen
  have hne : ∀ x ∈ RES, x ≠ [] := by rw [← hres]; exact read_ne _ _ _ _ (fun x hx => by cases hx)
  have h0 : Rem w.heap.size [] (w.alloc (.cells #[.pointer none, .pointer none, .bool false] 39)) := by
    refine ⟨by simp, ⟨none, false, ?_, ?_, ?_, rfl⟩, fun i => World.frozen?_alloc_at _ _ _ _ rfl⟩ <;> (rw [World.cell?_alloc_at _ _ _ _ rfl]; rfl)
  have HRd := hide (read20 w.heap.size s _ h0 hs RES hres)
  have HStr := hide (fun W p (h : Chain w.heap.size W RES p) => str21 p w.heap.size RES W h (by omega) hne)
  rw [hrm]
  generalize hQ : (fun (e : Ending) (w' : World) => e = .returned (.string (ofL (flat RES))) ∧ Below w.heap.size w w') = Q
  have HQ := hide hQ
  clear hQ hrm hlen hne h0 hres
  go_enter Tryd.func17, Tryd.ntmps17
  go_wp2_with fail
  refine (unhide HRd).mono ?_
  rintro e W1 ⟨rfl, hR, hB⟩
  have HB : Hid (Below w.heap.size w W1) := hide (((Below.refl _ _).alloc (Nat.le_refl _) _).trans hB)
  obtain ⟨_, ⟨p, e, c0, c1, c2, hc⟩, hf⟩ := hR
  have HC := hide hc
  clear hB HRd hc hf c1 c2
  go_wp2_with fail
  refine (unhide HStr _ _ HC.out).mono ?_
  rintro e W2 ⟨rfl, hB2⟩
  have HB2 := hide (HB.out.trans (hB2.mono HB.out.size))
  clear hB2
  go_wp2_with fail
  rw [← HQ.out]
  exact ⟨rfl, HB2.out⟩
end Go.Proofs.Qxb6614616aDoor
