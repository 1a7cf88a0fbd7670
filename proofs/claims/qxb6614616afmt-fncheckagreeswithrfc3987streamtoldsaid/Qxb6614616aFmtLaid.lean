/-
  WHAT THE LISTED VARIABLES GIVE THE WALKS: utf8's two tables.
-/
import Derived.Test.Qxb6614616aFmtRows
import Derived.Test.Qxb6614616aFmtC15
import Derived.ProofKit
import Derived.OpenShut
import Derived.LaidMore
import Derived.Lay
import Derived.PinnedBridge
import Derived.Lib.LaidTab
import Derived.Lib.LaidU8
import Derived.Stop.LaidErr
namespace Go.Proofs.Qxb6614616aFmt
open Go.ChangeShapes Go.WideShapes Go.ChangeAt Go.RowKit Go.Lib

theorem own : ownKnob Tryf.prog.godebug = none := by kernel_rfl
def laidL : List (String × DataW Unit) := Rows.fnCheckAgreesWithRFC3987StreamRow.laid
def nameAt (j : Nat) : String := (laidL[j]?.map (·.1)).getD ""
theorem gA : Tryf.prog.globalNamed (nameAt 0) = some 1 := by kernel_rfl
theorem gF : Tryf.prog.globalNamed (nameAt 1) = some 0 := by kernel_rfl
theorem tA : (Tryf.prog.globals[1]?).map (·.type) = some 56 := by kernel_rfl
theorem tF : (Tryf.prog.globals[0]?).map (·.type) = some 53 := by kernel_rfl
theorem c5 : Tryf.prog.cellsOf 5 = 1 := by kernel_rfl
theorem c53 : Tryf.prog.cellsOf 53 = 256 := by kernel_rfl
theorem c55 : Tryf.prog.cellsOf 55 = 2 := by kernel_rfl
theorem accept_eq : (Rows.laid_unicode_utf8_acceptRanges : DataW Unit) = acceptData := by kernel_rfl
theorem first_eq : Rows.laid_unicode_utf8_first = firstData := Pinned.utf8First_eq
theorem tabs_of_laid {W : World} (h : laidMetH Tryf.prog laidL W) : Utf8Tabs 0 1 W ∧ 2 ≤ W.heap.size := by
  rw [MakeChecks.laidMetH_plain _ _ _ (by kernel_rfl)] at h
  have h0 : laidMet Tryf.prog ((nameAt 0, Rows.laid_unicode_utf8_acceptRanges) :: (nameAt 1, Rows.laid_unicode_utf8_first) :: []) W := h
  have hA := laidMet.reads h0 (n := nameAt 0) (d := Rows.laid_unicode_utf8_acceptRanges) (List.mem_cons_self)
  have hF := laidMet.reads h0 (n := nameAt 1) (d := Rows.laid_unicode_utf8_first) (List.mem_cons_of_mem _ (List.mem_cons_self))
  rw [accept_eq] at hA
  rw [first_eq] at hF
  have T : Utf8Tabs 0 1 W := by
    refine ⟨fun c hc => ?_, fun i hi => ?_⟩
    · obtain ⟨g, t, cs, fuel, p, hg, hty, hvar, hd⟩ := hF
      obtain rfl := Option.some.inj (gF.symm.trans hg)
      obtain rfl := Option.some.inj (tF.symm.trans hty)
      have hcs := cells_of_tab Tryf.underlying53 Tryf.underlying5 c5 c53 hd
      have := World.var?_cell hg hvar c
      rw [this, ← Array.getElem?_toList, hcs]
      simp [firstTab, hc]
    · obtain ⟨g, t, cs, fuel, p, hg, hty, hvar, hd⟩ := hA
      obtain rfl := Option.some.inj (gA.symm.trans hg)
      obtain rfl := Option.some.inj (tA.symm.trans hty)
      obtain ⟨fuel', d, q, hdi, he⟩ := array_elem Tryf.underlying56 hd i hi
      simp only [List.getElem?_map, List.getElem?_range hi, Option.map_some, Option.some.injEq] at hdi
      subst hdi
      rw [c55] at he
      have hcs := ints_of_struct Tryf.underlying55 (fun j f hj => by
        match j, hj with
        | 0, hj => simp at hj; subst hj; exact ⟨Tryf.underlying5, rfl, c5⟩
        | 1, hj => simp at hj; subst hj; exact ⟨Tryf.underlying5, rfl, c5⟩
        | j + 2, hj => simp at hj) (by rw [c55]; rfl) he
      have e0 := congrArg (·[0]?) hcs
      have e1 := congrArg (·[1]?) hcs
      simp only [List.getElem?_take, List.getElem?_drop] at e0 e1
      constructor
      · rw [World.var?_cell hg hvar (2 * i), ← Array.getElem?_toList]
        simpa [Nat.mul_comm] using e0
      · rw [World.var?_cell hg hvar (2 * i + 1), ← Array.getElem?_toList]
        simpa [Nat.mul_comm] using e1
  refine ⟨T, ?_⟩
  have := (T.2 0 (by omega)).1
  by_cases hs : 1 < W.heap.size
  · exact hs
  · rw [World.cell?, Array.getElem?_eq_none (by simpa using hs)] at this
    cases this
end Go.Proofs.Qxb6614616aFmt
