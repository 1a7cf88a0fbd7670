/-
  WHAT THE LISTED VARIABLES GIVE THE WALKS: the cells that they read.
-/
import Derived.Test.Qxb6614386aDoorRows
import Derived.Test.Qxb6614386aDoorW10
import Derived.ProofKit
import Derived.OpenShut
import Derived.LaidMore
import Derived.Lay
import Derived.Lib.LaidTab
import Derived.Stop.LaidErr
namespace Go.Proofs.Qxb6614386aDoor
open Go.ChangeShapes Go.WideShapes Go.ChangeAt Go.RowKit

theorem own : ownKnob Tryd.prog.godebug = none := by kernel_rfl
def laidL : List (String × DataW Unit) := Rows.fnMillisecondsNegationAddsMinusRow.laid
def nameAt (j : Nat) : String := (laidL[j]?.map (·.1)).getD ""
theorem g2 : Tryd.prog.globalNamed (nameAt 2) = some 0 := by kernel_rfl
theorem g3 : Tryd.prog.globalNamed (nameAt 3) = some 1 := by kernel_rfl
theorem g5 : Tryd.prog.globalNamed (nameAt 5) = some 2 := by kernel_rfl
theorem t2 : (Tryd.prog.globals[0]?).map (·.type) = some 4 := by kernel_rfl
theorem t3 : (Tryd.prog.globals[1]?).map (·.type) = some 73 := by kernel_rfl
theorem t5 : (Tryd.prog.globals[2]?).map (·.type) = some 83 := by kernel_rfl
theorem c37 : Tryd.prog.cellsOf 37 = 1 := by kernel_rfl
theorem c73 : Tryd.prog.cellsOf 73 = 20 := by kernel_rfl
theorem c82 : Tryd.prog.cellsOf 82 = 2 := by kernel_rfl
theorem pow10_eq : (Rows.laid_internal_strconv_uint64pow10 : DataW Unit) = Lib.tabData .u64 Lib.pow10Tab := by kernel_rfl
theorem big_at3 : Go.Pinned.pow10Rows[351]? = some (18014398509481984000, 0) := by kernel_rfl
theorem big_at4 : Go.Pinned.pow10Rows[352]? = some (11258999068426240000, 0) := by kernel_rfl

/-- An integer's cell out of a reading at one cell. -/
theorem int_cell {W : World} {fuel : Nat} {cs : List Value} {off : Nat} {x : DataW Unit × List MemPlace} {z : Int}
    (hd : DataW.trod (fun _ => ()) Tryd.prog W 0 (fun _ => true) false fuel 37 ((cs.drop off).take 1) = some x) (hx : x.1 = .lit (.int .u64 z)) : cs[off]? = some (.int .u64 z) := by
  obtain ⟨k, e1, e2, _⟩ := DataW.trod_int Tryd.underlying37 hd
  rw [e2] at hx
  simp only [DataW.lit.injEq, Lit.int.injEq, true_and] at hx
  subst hx
  have h0 : ((cs.drop off).take 1)[0]? = some (.int .u64 k) := by rw [e1]; rfl
  simpa using h0
/-- The two cells of one row of pow10Tab. -/
theorem row_cells {W : World} {fuel : Nat} {cs : List Value} {p : List MemPlace} (hd : DataW.trod (fun _ => ()) Tryd.prog W 0 (fun _ => true) false fuel 83 cs = some (Go.Pinned.pow10Tab, p)) (i : Nat) (hi : i < 696) (a b : Nat) (hr : Go.Pinned.pow10Rows[i]? = some (a, b)) :
    cs[i * 2]? = some (.int .u64 a) ∧ cs[i * 2 + 1]? = some (.int .u64 b) := by
  obtain ⟨xs, m, _, ex, _, hl, hel⟩ := DataW.trod_array Tryd.underlying83 hd
  have hE := hel i hi
  rw [c82, List.getElem?_eq_getElem (by omega)] at hE
  have e3 : xs.map (·.1) = Go.Pinned.pow10Rows.map fun x => .agg [.lit (.int .u64 x.1), .lit (.int .u64 x.2)] := (DataW.agg.inj (Prod.mk.inj ex).1).symm
  have e4 : (xs.map (·.1))[i]? = some (.agg [.lit (.int .u64 a), .lit (.int .u64 b)]) := by rw [e3, List.getElem?_map, hr]; rfl
  rw [List.getElem?_map, List.getElem?_eq_getElem (by omega : i < xs.length), Option.map_some, Option.some.injEq] at e4
  obtain ⟨y0, y1, n, hx, hlen, h0, h1⟩ := trod_struct2 Tryd.underlying82 hE
  rw [hx] at e4
  simp only [DataW.agg.injEq, List.cons.injEq, and_true] at e4
  have f0 : DataW.trod (fun _ => ()) Tryd.prog W 0 (fun _ => true) false n 37 ((cs.drop (i * 2)).take 1) = some y0 := by
    have := h0
    simp only [c37] at this
    rw [← this]
    congr 1
    simp [List.take_take]
  have f1 : DataW.trod (fun _ => ()) Tryd.prog W 0 (fun _ => true) false n 37 ((cs.drop (i * 2 + 1)).take 1) = some y1 := by
    have := h1
    simp only [c37] at this
    rw [← this]
    congr 1
    rw [List.drop_take, List.take_take, List.drop_drop]
    congr 1
  exact ⟨int_cell f0 e4.1, int_cell f1 e4.2⟩

theorem tabs_of_laid {W : World} (h : laidMetH Tryd.prog laidL W) : Tabs W := by
  rw [MakeChecks.laidMetH_plain _ _ _ (by kernel_rfl)] at h
  have h0 : laidMet Tryd.prog ((nameAt 0, Rows.laid_math_bits_deBruijn32tab) :: (nameAt 1, Rows.laid_math_bits_deBruijn64tab) :: (nameAt 2, Rows.laid_internal_strconv_optimize) :: (nameAt 3, Rows.laid_internal_strconv_uint64pow10) :: (nameAt 4, Rows.laid_internal_strconv_leftcheats) :: (nameAt 5, Rows.laid_internal_strconv_pow10Tab) :: []) W := h
  have h2 := laidMet.tail (laidMet.tail h0)
  have h3 := laidMet.tail h2
  have h5 := laidMet.tail (laidMet.tail h3)
  have hT : Lib.TabIs Tryd.prog W (nameAt 3) .u64 Lib.pow10Tab := by
    refine Lib.tabIs_of_head g3 t3 Tryd.underlying73 Tryd.underlying37 c37 c73 (rest := (nameAt 4, Rows.laid_internal_strconv_leftcheats) :: (nameAt 5, Rows.laid_internal_strconv_pow10Tab) :: []) ?_
    rw [← pow10_eq]
    exact h3
  obtain ⟨_, ⟨ga, ta, csa, fa, pa, qa, hga, hta, hva, hda, _, _⟩, _, _⟩ := h2
  obtain rfl := Option.some.inj (g2.symm.trans hga)
  obtain rfl := Option.some.inj (t2.symm.trans hta)
  obtain ⟨_, ⟨gb, tb, csb, fb, pb, qb, hgb, htb, hvb, hdb, _, _⟩, _, _⟩ := h5
  obtain rfl := Option.some.inj (g5.symm.trans hgb)
  obtain rfl := Option.some.inj (t5.symm.trans htb)
  have r3 := row_cells hdb 351 (by decide) _ _ big_at3
  have r4 := row_cells hdb 352 (by decide) _ _ big_at4
  have cell2 : ∀ j v, csb.toList[j]? = some v → W.cell? ⟨2, j, none⟩ = some v := fun j v hj => by
    rw [World.var?_cell hgb hvb j]
    simpa using hj
  refine ⟨?_, ?_, fun n hn => ?_, cell2 _ _ r3.1, cell2 _ _ r3.2, cell2 _ _ r4.1, cell2 _ _ r4.2⟩
  · have := cell2 _ _ r3.1
    by_cases hs : 2 < W.heap.size
    · exact hs
    · rw [World.cell?, Array.getElem?_eq_none (by simpa using hs)] at this
      cases this
  · obtain ⟨b, e1, e2⟩ := DataW.trod_bool Tryd.underlying4 hda
    have hb : b = true := by
      have e3 : (.lit (.bool true) : DataW Unit) = .lit (.bool b) := (Prod.mk.inj e2).1
      simpa using e3.symm
    subst hb
    rw [World.var?_cell hga hva 0]
    have : csa.toList[0]? = some (.bool true) := by rw [e1]; rfl
    simpa using this
  · rw [hT.cell g3 n (by simp [Lib.pow10Tab]; omega), Lib.pow10Tab_at n hn]
end Go.Proofs.Qxb6614386aDoor
