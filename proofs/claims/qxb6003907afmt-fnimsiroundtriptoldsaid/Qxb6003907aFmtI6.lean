/-
  lawClone, lawSame, the byte guards.
-/
import Derived.Test.Qxb6003907aFmtI5
namespace Go.Proofs.Qxb6003907aFmt
open Go.RowKit
set_option linter.unusedSimpArgs false
/-- A row of bytes. -/
def Row (b off n : Nat) (x : Nat → Nat) (w : World) : Prop := ∀ j, j < n → w.cell? ⟨b, off + j, none⟩ = some (.int .u8 (x j))
theorem eqSome (a : Addr) (n cap : Nat) (w : World) : (binOp .eql 22 (.slice (some a) n cap) (.slice none 0 0)).run Tryf.prog w = .ok (.bool false) w := by kernel_rfl
theorem eqNil (w : World) : (binOp .eql 22 (.slice none 0 0) (.slice none 0 0)).run Tryf.prog w = .ok (.bool true) w := by kernel_rfl
attribute [local go_sem] eqSome eqNil
set_option maxRecDepth 100000 in
theorem clone_nil (w : World) : Calls Tryf.prog 9 #[.slice none 0 0] w fun e w' => e = .returned (.slice none 0 0) ∧ w' = w := by
  go_enter Tryf.func9, Tryf.ntmps9
  go_wp2
  go_ret
  exact ⟨rfl, rfl⟩
theorem run_makeN (n : Nat) (hn : (n : Int) ≤ 1048576) (w : World) : ∃ Z : Array Value, Z.size = n ∧ (Instr.makeSlice 22 (.int .i64 n) (.int .i64 n)).run Tryf.prog w = .ok (.slice (some ⟨w.heap.size, 0, none⟩) n n) (w.alloc (.cells Z 5)) := by
  obtain ⟨i0, hi, hz0, hz1, hz2⟩ := info_parts info5
  have := run_makeSlice (P := Tryf.prog) w 22 5 i0 (.int .u8 0) Tryf.underlying22 hi hz0 .i64 .i64 n n (by omega) (Int.le_refl _) (by rw [hz1]; omega) (by rw [hz2]; omega) (by omega)
  rw [hz1] at this
  simp only [Int.toNat_natCast, Nat.mul_one] at this
  exact ⟨_, by rw [size_madeCells], this⟩
structure Cl (w wr : World) (x : Nat → Nat) (i n : Nat) : Prop where
  below : Below w.heap.size w wr
  size : w.heap.size < wr.heap.size
  done : ∀ j, j < i → wr.cell? ⟨w.heap.size, j, none⟩ = some (.int .u8 (x j))
  rest : ∀ j, i ≤ j → j < n → ∃ u, wr.cell? ⟨w.heap.size, j, none⟩ = some u
  free : ∀ j, wr.frozen? ⟨w.heap.size, j, none⟩ = false
theorem Cl.set {w wr : World} {x : Nat → Nat} {i n : Nat} (h : Cl w wr x i n) (hi : i < n) : Cl w (wr.setCell ⟨w.heap.size, i, none⟩ (.int .u8 (x i))) x (i + 1) n := by
  have hb : Below w.heap.size wr (wr.setCell ⟨w.heap.size, i, none⟩ (.int .u8 (x i))) := (Below.refl _ _).setCell (p := ⟨w.heap.size, i, none⟩) (Nat.le_refl w.heap.size) _
  obtain ⟨u, hu⟩ := h.rest i (Nat.le_refl _) hi
  refine ⟨h.below.trans hb, Nat.lt_of_lt_of_le h.size hb.size, fun j hj => ?_, fun j h1 h2 => ?_, fun j => (World.frozen?_setCell _ _ _ _).trans (h.free j)⟩
  · by_cases e : j = i
    · subst e; exact World.cell?_setCell_same _ _ _ hu
    · rw [World.cell?_setCell_other _ _ _ _ (fun h => e (Addr.mk.inj h).2.1.symm)]; exact h.done j (by omega)
  · rw [World.cell?_setCell_other _ _ _ _ (fun h => absurd (Addr.mk.inj h).2.1 (by omega))]; exact h.rest j (by omega) h2
set_option maxRecDepth 100000 in
set_option maxHeartbeats 2000000 in
theorem clone_any (b off n cap : Nat) (x : Nat → Nat) (w : World) (hb : b < w.heap.size) (hn : (n : Int) ≤ 1048576) (hx : Row b off n x w) :
    Calls Tryf.prog 9 #[.slice (some ⟨b, off, none⟩) n cap] w fun e w' => e = .returned (.slice (some ⟨w.heap.size, 0, none⟩) n n) ∧ Row w.heap.size 0 n x w' ∧ w.heap.size < w'.heap.size ∧ Below w.heap.size w w' := by
  have HX := hide hx
  clear hx
  obtain ⟨Z, hZ, hmk⟩ := run_makeN n hn w
  have HZ := hide hZ
  clear hZ
  go_enter Tryf.func9, Tryf.ntmps9
  go_wp2_with fail
  go_loopw [4] (fun ii wr => ∃ i : Nat, i ≤ n ∧ ii = .int .i64 i ∧ Hid (Cl w wr x i n)) (fun ii _ => n - (intOf ii).toNat)
  case atStart =>
    refine ⟨0, Nat.zero_le _, rfl, ?_⟩
    show Cl _ _ _ _ _
    refine ⟨(Below.refl _ _).alloc (Nat.le_refl _) _, by simp, nofun, fun j _ hj => ?_, fun j => World.frozen?_alloc_at _ _ _ _ rfl⟩
    refine ⟨Z[j]'(by rw [HZ.out]; exact hj), ?_⟩
    rw [World.cell?_alloc_at _ _ _ _ rfl]
    simp [HZ.out, hj]
  case round =>
    obtain ⟨i, hi, rfl, hC⟩ := hrel
    by_cases hlt : i < n
    · have hltI : (i : Int) < n := by omega
      obtain ⟨u, hu⟩ := hC.out.rest i (Nat.le_refl _) hlt
      have hf := hC.out.free i
      have hsrc : wr.cell? ⟨b, off + i, none⟩ = some (.int .u8 (x i)) := (hC.out.below.cell (p := ⟨b, off + i, none⟩) hb).trans (HX.out i hlt)
      go_wp2_with fail
      go_roundw
      case rel => exact ⟨i + 1, by omega, by go_num, hC.out.set hlt⟩
      case measure => simp [intOf]; omega
    · obtain rfl : i = n := by omega
      go_wp2_with fail
      go_ret
      exact ⟨rfl, fun j hj => by rw [Nat.zero_add]; exact hC.out.done j hj, hC.out.size, hC.out.below⟩
set_option maxRecDepth 100000 in
set_option maxHeartbeats 2000000 in
theorem same_any (b1 o1 c1 b2 o2 c2 n m : Nat) (x y : Nat → Nat) (w : World) (hn : (n : Int) ≤ 2097152) (hm : (m : Int) ≤ 2097152) (hx : Row b1 o1 n x w) (hy : Row b2 o2 m y w) (h : n = m → ∀ j, j < n → x j = y j) (hnm : n = m) :
    Calls Tryf.prog 14 #[.slice (some ⟨b1, o1, none⟩) n c1, .slice (some ⟨b2, o2, none⟩) m c2] w fun e w' => e = .returned (.bool true) ∧ ∃ k, w' = w.drewN k := by
  subst hnm
  have HX := hide hx
  have HY := hide hy
  have H := hide (h rfl)
  clear hx hy h hm
  go_enter Tryf.func14, Tryf.ntmps14
  go_wp2_with fail
  go_loopw [5] (fun ii wr => ∃ i : Nat, i ≤ n ∧ ii = .int .i64 i ∧ ∃ k, wr = w.drewN k) (fun ii _ => n - (intOf ii).toNat)
  case atStart => exact ⟨0, Nat.zero_le _, rfl, 0, rfl⟩
  case round =>
    obtain ⟨i, hi, rfl, k, rfl⟩ := hrel
    by_cases hlt : i < n
    · have hltI : (i : Int) < n := by omega
      have h1 := HX.out i hlt
      have h2 := HY.out i hlt
      rw [← H.out i hlt] at h2
      go_wp2_with fail
      go_quiet (fail)
      go_wp2_with fail
      go_roundw
      case rel => exact ⟨i + 1, by omega, by go_num, _, rfl⟩
      case measure => simp [intOf]; omega
    · obtain rfl : i = n := by omega
      go_wp2_with fail
      go_ret
      exact ⟨rfl, k, rfl⟩
end Go.Proofs.Qxb6003907aFmt
