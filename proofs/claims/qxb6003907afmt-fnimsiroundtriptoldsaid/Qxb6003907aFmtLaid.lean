/-
  A slice of bytes that a row hands over; closed facts of the dump; the world that lays the listed variables.
-/
import Derived.Test.Qxb6003907aFmtRows
import Derived.Test.Qxb6003907aFmtI7
import Derived.ProofKit
import Derived.OpenShut
import Derived.LaidMore
import Derived.Lay
import Derived.Carry
import Derived.ChangeSlices
import Derived.Lib.LaidU8
import Derived.Stop.LaidErr
import Derived.SevenTiedAt
import Derived.Stop.JoinedTold
import Derived.SevenToldRow
namespace Go.Proofs.Qxb6003907aFmt
open Go.ChangeShapes Go.WideShapes Go.ChangeAt Go.RowKit
open Go.Extern.Stop Go.Stop Go.Extern
theorem own : ownKnob Tryf.prog.godebug = none := by kernel_rfl
theorem laidOut : laidOutB Tryf.pinned.checked.prog = true := by kernel_rfl
theorem stops : Tryf.pinned.checked.prog.stops = ["fmt.errorf"] := by kernel_rfl
theorem stopKnobs : Tryf.pinned.checked.prog.stopKnobs = [] := by kernel_rfl
theorem quietOs (os : Os) : Stop.quiet Tryf.pinned.checked.prog os := by
  intro k hk
  rw [stopKnobs] at hk
  cases hk
theorem c5 : Tryf.prog.cellsOf 5 = 1 := by kernel_rfl
def laidL : List (String × DataW Unit) := Rows.fnIMSIValueReencodesRow.laid
theorem met_laid (os : Os) (args : Array Value) : laidMetH Tryf.prog laidL ((World.laidAll Tryf.prog os laidL).forCall (fun _ _ => 0) ⟨#[], args, []⟩).memory := by
  rw [MakeChecks.laidMetH_plain _ _ _ (by kernel_rfl)]
  exact laidMet_laidAll _ (by kernel_rfl) (by kernel_rfl)
theorem open_bytes {H : Type} {enc : TypeId × Value → H} {W : World} {base : Nat} {v : Value} {d : DataW H} {p : List MemPlace} (hval : Value.okWide Tryf.prog W .any base 22 v) (h : DataW.Trod enc Tryf.prog W 0 (fun _ => true) true 22 v d p) :
    v = .slice none 0 0 ∨ ∃ (a : Addr) (len cap : Nat) (x : Nat → Nat), v = .slice (some a) len cap ∧ (∀ j, j < len → x j < 256) ∧ (1 ≤ len → ∃ b off, a = ⟨b, off, none⟩ ∧ b < W.heap.size ∧ Row b off len x W) := by
  obtain ⟨a0, len, cap, rfl⟩ := okWide_slice Tryf.underlying22 hval
  obtain ⟨fuel, hf⟩ := h
  rcases open_ints Tryf.underlying22 Tryf.underlying5 c5 hf with ⟨hcs, _⟩ | ⟨a, len', cap', zs, hcs, _, hl, _, hz, _, hcell, hwz⟩
  · simp [Value.cells] at hcs
    obtain ⟨rfl, rfl, rfl⟩ := hcs
    exact .inl rfl
  · simp [Value.cells] at hcs
    obtain ⟨rfl, rfl, rfl⟩ := hcs
    simp only [if_true] at hz
    have hget : ∀ j, j < len → ∃ y : Nat, zs.getD j 0 = (y : Int) ∧ y < 256 := fun j hj => by
      have hm : zs.getD j 0 ∈ zs := by
        rw [List.getD_eq_getElem?_getD, List.getElem?_eq_getElem (by omega), Option.getD_some]
        exact List.getElem_mem _
      have h1 : 0 ≤ zs.getD j 0 ∧ zs.getD j 0 ≤ 255 := by simpa [Lit.wf, IntKind.min, IntKind.max, IntKind.signed, IntKind.bits] using hwz _ hm
      exact ⟨(zs.getD j 0).toNat, by omega, by omega⟩
    refine .inr ⟨a, len, cap, fun j => (zs.getD j 0).toNat, rfl, fun j hj => ?_, fun h1 => ?_⟩
    · obtain ⟨y, hy, hlt⟩ := hget j hj
      show (zs.getD j 0).toNat < 256
      omega
    · obtain ⟨b, off, sp⟩ := a
      have h0 := hcell 0 (by omega)
      have hsp : sp = none := by
        have h0' := h0
        unfold Addr.add at h0'
        cases sp with
        | none => rfl
        | some q =>
          rw [if_pos rfl] at h0'
          exact absurd (cell_spot h0') (by simp)
      subst hsp
      have hadd : ∀ j, (⟨b, off, none⟩ : Addr).add j = ⟨b, off + j, none⟩ := fun j => by unfold Addr.add; split <;> simp_all
      refine ⟨b, off, rfl, ?_, fun j hj => ?_⟩
      · rw [hadd] at h0
        rcases Nat.lt_or_ge b W.heap.size with h | h
        · exact h
        · rw [World.cell?, Array.getElem?_eq_none h] at h0; cases h0
      · have := hcell j (by omega)
        rw [hadd] at this
        obtain ⟨y, hy, hlt⟩ := hget j hj
        rw [this, hy]
        show _ = some (Value.int .u8 ((zs.getD j 0).toNat : Nat))
        rw [hy]; rfl
theorem law6_any {H : Type} {enc : TypeId × Value → H} {W : World} {base : Nat} {v : Value} {d : DataW H} {p : List MemPlace} (hval : Value.okWide Tryf.prog W .any base 22 v) (h : DataW.Trod enc Tryf.prog W 0 (fun _ => true) true 22 v d p) :
    Calls Tryf.prog 6 #[v] W fun e w' => e = .returned (.bool true) ∧ Below W.heap.size W w' := by
  rcases open_bytes hval h with rfl | ⟨a, len, cap, x, rfl, hx, hr⟩
  · exact law6_short none 0 0 W (by decide)
  · by_cases h8 : len = 8
    · subst h8
      obtain ⟨b, off, rfl, hb, hrow⟩ := hr (by decide)
      exact law6_eight b off cap x W hb hx hrow
    · exact law6_short _ len cap W h8
end Go.Proofs.Qxb6003907aFmt
