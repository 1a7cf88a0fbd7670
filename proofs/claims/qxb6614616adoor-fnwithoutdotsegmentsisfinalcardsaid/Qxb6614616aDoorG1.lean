/-
  withoutDotSegments, walked.
-/
import Derived.Test.Qxb6614616aDoorE2
import Derived.Test.Qxb6614616aDoorD6
import Derived.Test.Qxb6614616aDoorB1
import Derived.Test.Qxb6614616aDoorJ2
namespace Go.Proofs.Qxb6614616aDoor
open Go.RowKit
set_option linter.unusedSimpArgs false
set_option maxHeartbeats 4000000 in
set_option maxRecDepth 100000 in
theorem without13 (ref sc au pa qu fr : ByteArray) (b1 b2 b3 b4 : Bool) (w : World) (hs : (sc.size : Int) + au.size + pa.size + qu.size + fr.size ≤ 1048576) :
    Calls Tryd.prog 13 #[.string ref, .agg #[.string sc, .string au, .string pa, .string qu, .string fr, .bool b1, .bool b2, .bool b3, .bool b4]] w fun e w' => e = .returned (.string (if holdsDot (L pa) then ofL (joinL (L sc) (L au) (removeP (L pa)) (L qu) (L fr) b1 b2 b3 b4) else ref)) ∧ Below w.heap.size w w' := by
  have HH := hide (has16 pa (w.alloc (.cells #[.string sc, .string au, .string pa, .string qu, .string fr, .bool b1, .bool b2, .bool b3, .bool b4] 31)) (by omega))
  have HR := hide (fun W => rem17 pa W (by omega))
  have hrl := remove_len (L pa)
  rw [L_len] at hrl
  have hrs := size_ofL (removeP (L pa))
  have hJL : ∀ W, Calls Tryd.prog 18 #[.agg #[.string sc, .string au, .string (ofL (removeP (L pa))), .string qu, .string fr, .bool b1, .bool b2, .bool b3, .bool b4]] W fun e w' => e = .returned (.string (ofL (joinL (L sc) (L au) (removeP (L pa)) (L qu) (L fr) b1 b2 b3 b4))) ∧ Below W.heap.size W w' := fun W => by
    have := str18 sc au (ofL (removeP (L pa))) qu fr b1 b2 b3 b4 W (by omega)
    rw [L_ofL] at this
    exact this
  have HJ := hide hJL
  obtain ⟨d, hd⟩ : ∃ d, holdsDot (L pa) = d := ⟨_, rfl⟩
  rw [hd] at HH ⊢
  generalize ofL (joinL (L sc) (L au) (removeP (L pa)) (L qu) (L fr) b1 b2 b3 b4) = out at HJ ⊢
  generalize ofL (removeP (L pa)) = rp at HJ HR hrs
  generalize hQ : (fun (e : Ending) (w' : World) => e = .returned (.string (if d then out else ref)) ∧ Below w.heap.size w w') = Q
  have HQ := hide hQ
  clear hJL hrl hrs hd hQ hs
  cases d
  · go_enter Tryd.func13, Tryd.ntmps13
    go_wp2_with fail
    refine (unhide HH).mono ?_
    rintro e W1 ⟨rfl, hB1⟩
    have HB1 : Hid (Below w.heap.size w W1) := hide (((Below.refl _ _).alloc (Nat.le_refl _) _).trans (hB1.mono (by simp)))
    clear hB1
    go_wp2_with fail
    rw [← HQ.out]
    exact ⟨rfl, HB1.out⟩
  · go_enter Tryd.func13, Tryd.ntmps13
    go_wp2_with fail
    refine (unhide HH).mono ?_
    rintro e W1 ⟨rfl, hB1⟩
    have HB1 : Hid (Below w.heap.size w W1) := hide (((Below.refl _ _).alloc (Nat.le_refl _) _).trans (hB1.mono (by simp)))
    have hc : ∀ i, W1.cell? ⟨w.heap.size, i, none⟩ = #[Value.string sc, .string au, .string pa, .string qu, .string fr, .bool b1, .bool b2, .bool b3, .bool b4][i]? := fun i => (hB1.cell (p := ⟨w.heap.size, i, none⟩) (by simp)).trans (World.cell?_alloc_at _ _ _ _ rfl)
    have hf : ∀ i, W1.frozen? ⟨w.heap.size, i, none⟩ = false := fun i => (hB1.frozen (p := ⟨w.heap.size, i, none⟩) (by simp)).trans (World.frozen?_alloc_at _ _ _ _ rfl)
    have hlt : w.heap.size < W1.heap.size := Nat.lt_of_lt_of_le (by simp) hB1.size
    have HC := hide hc
    have HF := hide hf
    have c2 : W1.cell? ⟨w.heap.size, 2, none⟩ = some (.string pa) := hc 2
    clear hB1 HH hc hf
    go_wp2_with fail
    refine (unhide HR W1).mono ?_
    rintro e W2 ⟨rfl, hB2⟩
    have HB2 : Hid (Below w.heap.size w W2) := hide (HB1.out.trans (hB2.mono HB1.out.size))
    have hc : ∀ i, W2.cell? ⟨w.heap.size, i, none⟩ = #[Value.string sc, .string au, .string pa, .string qu, .string fr, .bool b1, .bool b2, .bool b3, .bool b4][i]? := fun i => (hB2.cell (p := ⟨w.heap.size, i, none⟩) hlt).trans (HC.out i)
    have f2 : W2.frozen? ⟨w.heap.size, 2, none⟩ = false := (hB2.frozen (p := ⟨w.heap.size, 2, none⟩) hlt).trans (HF.out 2)
    have d0 : W2.cell? ⟨w.heap.size, 0, none⟩ = some (.string sc) := hc 0
    have d1 : W2.cell? ⟨w.heap.size, 1, none⟩ = some (.string au) := hc 1
    have d2 : W2.cell? ⟨w.heap.size, 2, none⟩ = some (.string pa) := hc 2
    have d3 : W2.cell? ⟨w.heap.size, 3, none⟩ = some (.string qu) := hc 3
    have d4 : W2.cell? ⟨w.heap.size, 4, none⟩ = some (.string fr) := hc 4
    have d5 : W2.cell? ⟨w.heap.size, 5, none⟩ = some (.bool b1) := hc 5
    have d6 : W2.cell? ⟨w.heap.size, 6, none⟩ = some (.bool b2) := hc 6
    have d7 : W2.cell? ⟨w.heap.size, 7, none⟩ = some (.bool b3) := hc 7
    have d8 : W2.cell? ⟨w.heap.size, 8, none⟩ = some (.bool b4) := hc 8
    clear hB2 hc c2 HR
    go_wp2_with fail
    refine (unhide HJ _).mono ?_
    rintro e W3 ⟨rfl, hB3⟩
    have HB3 : Hid (Below w.heap.size w W3) := hide ((HB2.out.setCell (p := ⟨w.heap.size, 2, none⟩) (Nat.le_refl _) _).trans (hB3.mono (by simpa using HB2.out.size)))
    clear hB3
    go_wp2_with fail
    rw [← HQ.out]
    exact ⟨rfl, HB3.out⟩
end Go.Proofs.Qxb6614616aDoor
