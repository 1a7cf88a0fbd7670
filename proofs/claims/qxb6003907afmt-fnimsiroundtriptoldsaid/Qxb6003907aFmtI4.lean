/-
  AppendIMSI of a good text.
-/
import Derived.Test.Qxb6003907aFmtI3
namespace Go.Proofs.Qxb6003907aFmt
open Go.RowKit
set_option linter.unusedSimpArgs false
/-- Byte j when i digits have been written. -/
def pkb (d : Nat → Nat) (i j : Nat) : Nat := (if 2 * j < i then d (2 * j) else 15) + 16 * (if 2 * j + 1 < i then d (2 * j + 1) else 15)
theorem pk_even : ∀ d : Fin 10, bits .or .u8 (bits .andNot .u8 255 15) ((d.val : Nat) : Int) = ((d.val + 240 : Nat) : Int) := by decide
theorem pk_odd : ∀ p d : Fin 10, bits .or .u8 (bits .andNot .u8 ((p.val + 240 : Nat) : Int) 240) ((16 * d.val : Nat) : Int) = ((p.val + 16 * d.val : Nat) : Int) := by decide
theorem pk_odd' (p di : Nat) (hp : p ≤ 9) (hd : di ≤ 9) : bits .or .u8 (bits .andNot .u8 ((p + 240 : Nat) : Int) 240) (16 * (di : Int)) = ((p + 16 * di : Nat) : Int) := by
  have := pk_odd ⟨p, by omega⟩ ⟨di, by omega⟩
  rw [← this]
  rfl
def packed (d : Nat → Nat) (m : Nat) : List Value := (List.range 8).map fun j => Value.int .u8 (pkb d m j)
theorem len56 : Tryf.prog.arrayLen 56 = 8 := by kernel_rfl
theorem elem56 : Tryf.prog.elem 56 = 5 := by kernel_rfl
theorem size5 (w : World) : (sizeOf 5).run Tryf.prog w = .ok 1 w := by kernel_rfl
theorem und56' : Tryf.prog.underlying 56 = some (.array (Tryf.prog.arrayLen 56) (Tryf.prog.elem 56)) := by kernel_rfl
theorem run_slice56 (B : Nat) (w : World) : (Instr.sliceAt 56 (.pointer (some ⟨B, 0, none⟩)) none none none).run Tryf.prog w = .ok (.slice (some ⟨B, 0, none⟩) 8 8) w := by
  rw [run_sliceAt_array_all w 56 ⟨B, 0, none⟩ und56', elem56, size5, len56]
  rfl
theorem und56 : Tryf.prog.underlying 56 = some (.array 8 5) := Tryf.underlying56
/-- AppendIMSI's own array. -/
structure Arr (w wr : World) (x : Nat → Nat) : Prop where
  below : Below w.heap.size w wr
  size : w.heap.size < wr.heap.size
  cell : ∀ j, j < 8 → wr.cell? ⟨w.heap.size, j, none⟩ = some (.int .u8 (x j))
  free : ∀ j, wr.frozen? ⟨w.heap.size, j, none⟩ = false
theorem Arr.on {w wr wr' : World} {x : Nat → Nat} (h : Arr w wr x) (hb : Below wr.heap.size wr wr') : Arr w wr' x :=
  ⟨h.below.trans (hb.mono (Nat.le_of_lt h.size)), Nat.lt_of_lt_of_le h.size hb.size, fun j hj => (hb.cell (p := ⟨w.heap.size, j, none⟩) h.size).trans (h.cell j hj), fun j => (hb.frozen (p := ⟨w.heap.size, j, none⟩) h.size).trans (h.free j)⟩
theorem Arr.set {w wr : World} {x : Nat → Nat} (h : Arr w wr x) {k : Nat} (hk : k < 8) (v : Nat) (y : Nat → Nat) (hy : ∀ j, j < 8 → y j = if j = k then v else x j) : Arr w (wr.setCell ⟨w.heap.size, k, none⟩ (.int .u8 v)) y := by
  have hb : Below w.heap.size wr (wr.setCell ⟨w.heap.size, k, none⟩ (.int .u8 v)) := (Below.refl _ _).setCell (p := ⟨w.heap.size, k, none⟩) (Nat.le_refl w.heap.size) _
  refine ⟨h.below.trans hb, Nat.lt_of_lt_of_le h.size hb.size, fun j hj => ?_, fun j => (World.frozen?_setCell _ _ _ _).trans (h.free j)⟩
  rw [hy j hj]
  by_cases e : j = k
  · subst e; rw [if_pos rfl]; exact World.cell?_setCell_same _ _ _ (h.cell j hk)
  · rw [if_neg e, World.cell?_setCell_other _ _ _ _ (fun h => e (Addr.mk.inj h).2.1.symm)]; exact h.cell j hj
theorem Arr.drew {w wr : World} {x : Nat → Nat} (h : Arr w wr x) : Arr w wr.drew x := ⟨h.below.drew, h.size, h.cell, h.free⟩
theorem pkb_next (d : Nat → Nat) (i : Nat) (v : Nat) (hv : v = pkb d (i + 1) (i / 2)) (j : Nat) : pkb d (i + 1) j = if j = i / 2 then v else pkb d i j := by
  by_cases e : j = i / 2
  · rw [if_pos e, hv, e]
  · rw [if_neg e]
    unfold pkb
    have h1 : (2 * j < i + 1) ↔ (2 * j < i) := by omega
    have h2 : (2 * j + 1 < i + 1) ↔ (2 * j + 1 < i) := by omega
    simp only [h1, h2]
theorem add_block (b : Addr) (j : Nat) : (b.add j).block = b.block := by unfold Addr.add; split <;> rfl
theorem packed_one {d : Nat → Nat} {m : Nat} : ∀ u ∈ packed d m, u.oneCell' = true := by
  intro u hu
  unfold packed at hu
  obtain ⟨j, _, rfl⟩ := List.mem_map.1 hu
  rfl
theorem packed_at (d : Nat → Nat) (m j : Nat) (u : Value) (h : (packed d m)[j]? = some u) : j < 8 ∧ u = .int .u8 (pkb d m j) := by
  unfold packed at h
  rw [List.getElem?_map] at h
  by_cases hj : j < 8
  · rw [List.getElem?_range hj] at h
    exact ⟨hj, (Option.some.inj h).symm⟩
  · rw [List.getElem?_eq_none (by simpa using hj)] at h; cases h
theorem packed_cells {d : Nat → Nat} {m B : Nat} {W : World} (h : ∀ j, j < 8 → W.cell? ⟨B, j, none⟩ = some (.int .u8 (pkb d m j))) : ∀ j u, (packed d m)[j]? = some u → W.cell? ((⟨B, 0, none⟩ : Addr).add j) = some u := by
  intro j u hj
  obtain ⟨h1, rfl⟩ := packed_at d m j u hj
  have hplain : (⟨B, 0, none⟩ : Addr).add j = ⟨B, j, none⟩ := by unfold Addr.add; split <;> simp_all
  rw [hplain]
  exact h j h1
set_option maxRecDepth 100000 in
set_option maxHeartbeats 4000000 in
theorem append_good (s : ByteArray) (d : Nat → Nat) (hs1 : 1 ≤ s.size) (hs15 : (s.size : Int) ≤ 15) (hd : ∀ i (h : i < s.size), (s[i]'h).toNat = 48 + d i) (hd9 : ∀ i, i < s.size → d i ≤ 9) (ao : Option Addr) (n : Nat) (olds : List Value) (w : World)
    (hne : s.toList.isEmpty = false) (hT : Hid (∀ W, Calls Tryf.prog 23 #[.string s, .string ⟨#[48, 49, 50, 51, 52, 53, 54, 55, 56, 57]⟩] W fun e w' => e = .returned (.string ⟨#[]⟩) ∧ Below W.heap.size W w'))
    (hnone : ao = none → n = 0) (hlo : olds.length = n) (holds : ∀ b, ao = some b → b.block < w.heap.size ∧ ∀ j u, olds[j]? = some u → w.cell? (b.add j) = some u) (hn : n ≤ 1048576) :
    Calls Tryf.prog 18 #[.slice ao n n, .string s] w fun e w' => ∃ B cap, w.heap.size ≤ B ∧ B < w'.heap.size ∧ n + 8 ≤ cap ∧ e = .returned (.tuple #[.slice (some ⟨B, 0, none⟩) (n + 8) cap, .nilIface]) ∧
      (∀ j v, (olds ++ packed d s.size)[j]? = some v → w'.cell? ⟨B, j, none⟩ = some v) ∧ Below w.heap.size w w' := by
  generalize hQ : (fun (e : Ending) (w' : World) => ∃ B cap, w.heap.size ≤ B ∧ B < w'.heap.size ∧ n + 8 ≤ cap ∧ e = .returned (.tuple #[.slice (some ⟨B, 0, none⟩) (n + 8) cap, .nilIface]) ∧
      (∀ j v, (olds ++ packed d s.size)[j]? = some v → w'.cell? ⟨B, j, none⟩ = some v) ∧ Below w.heap.size w w') = Q
  have HQ := hide hQ
  have HNo := hide hnone
  have HLo := hide hlo
  have HOl := hide holds
  have HN := hide hn
  clear hQ hnone hlo holds hn
  have hs1' : (1 : Int) ≤ s.size := by omega
  go_enter Tryf.func18, Tryf.ntmps18
  go_wp2_with ((go_at_call 23; refine (unhide hT _).mono ?_; rintro e w1 ⟨rfl, hb1⟩))
  have HB1 := hide hb1
  clear hb1
  go_loopw [30] (fun ii wr => ∃ i : Nat, i ≤ s.size ∧ ii = .int .i64 i ∧ Hid (Arr w1 wr (pkb d i))) (fun ii _ => s.size - (intOf ii).toNat)
  case atStart =>
    refine ⟨0, Nat.zero_le _, rfl, ?_⟩
    show Arr w1 _ _
    refine ⟨(Below.refl _ _).alloc (Nat.le_refl _) _, by simp, fun j hj => ?_, fun j => World.frozen?_alloc_at _ _ _ _ rfl⟩
    rw [World.cell?_alloc_at _ _ _ _ rfl]
    rcases (by omega : j = 0 ∨ j = 1 ∨ j = 2 ∨ j = 3 ∨ j = 4 ∨ j = 5 ∨ j = 6 ∨ j = 7) with rfl | rfl | rfl | rfl | rfl | rfl | rfl | rfl <;> rfl
  case round =>
    obtain ⟨i, hi, rfl, hA⟩ := hrel
    by_cases hlt : i < s.size
    · have hltI : (i : Int) < s.size := by omega
      have hcell := hA.out.cell (i / 2) (by omega)
      have hfree := hA.out.free (i / 2)
      obtain ⟨x, hx⟩ : ∃ x, s[i]'hlt = x := ⟨_, rfl⟩
      have hxd : x.toNat = 48 + d i := by rw [← hx]; exact hd i hlt
      have hd9i := hd9 i hlt
      have hxs : ((s[i]'hlt).toNat : Int) = 48 + (d i : Int) := by rw [hx]; omega
      obtain ⟨di, hdi⟩ : ∃ di, d i = di := ⟨_, rfl⟩
      rw [hdi] at hxs hxd hd9i
      rcases (by omega : i % 2 = 0 ∨ i % 2 = 1) with hm | hm
      · have hmI : (i : Int) % 2 = 0 := by omega
        have hold : pkb d i (i / 2) = 255 := by unfold pkb; rw [if_neg (by omega), if_neg (by omega)]
        rw [hold] at hcell
        have hpk := pk_even ⟨di, by omega⟩
        have HH := hide hx
        clear hx hd hd9
        go_wp2_with fail
        go_region
        go_wp2_with fail
        go_roundw
        case rel =>
          refine ⟨i + 1, by omega, by go_num, ?_⟩
          rw [show (48 + (di : Int) - 48) = (di : Int) by omega, hpk]
          refine (hA.out.set (k := i / 2) (by omega) (di + 240) _ (fun j _ => pkb_next d i _ ?_ j)).drew
          unfold pkb
          rw [if_pos (by omega), if_neg (by omega), show 2 * (i / 2) = i by omega, hdi]
        case measure => simp [intOf]; omega
      · have hmI : (i : Int) % 2 = 1 := by omega
        have hp9 := hd9 (i - 1) (by omega)
        obtain ⟨pd, hpd⟩ : ∃ pd, d (i - 1) = pd := ⟨_, rfl⟩
        rw [hpd] at hp9
        have hold : pkb d i (i / 2) = pd + 240 := by unfold pkb; rw [if_pos (by omega), if_neg (by omega), show 2 * (i / 2) = i - 1 by omega, hpd]
        rw [hold] at hcell
        have hpk := pk_odd' pd di hp9 hd9i
        have HH := hide hx
        clear hx hd hd9
        go_wp2_with fail
        go_region
        go_wp2_with fail
        go_roundw
        case rel =>
          refine ⟨i + 1, by omega, by go_num, ?_⟩
          rw [show ((48 + (di : Int) - 48) * 16) = 16 * (di : Int) by omega, show ((pd : Int) + 240) = ((pd + 240 : Nat) : Int) from rfl, hpk]
          refine (hA.out.set (k := i / 2) (by omega) (pd + 16 * di) _ (fun j _ => pkb_next d i _ ?_ j)).drew
          unfold pkb
          rw [if_pos (by omega), if_pos (by omega), show 2 * (i / 2) = i - 1 by omega, hpd, show i - 1 + 1 = i by omega, hdi]
        case measure => simp [intOf]; omega
    · obtain rfl : i = s.size := by omega
      have hsl := run_slice56 w1.heap.size
      obtain ⟨i0, hi0, hz0, hz1, hz2⟩ := info_parts info5
      have HI := hide (And.intro hi0 (And.intro hz0 (And.intro hz1 hz2)))
      have hbw : Below w.heap.size w wr := HB1.out.trans (hA.out.below.mono HB1.out.size)
      have HBW := hide hbw
      clear hi0 hz0 hz1 hz2 hbw hd hd9
      go_wp2_with (first | (at_builtin; refine wpList_append_grows wr rfl (.tmp 54) (.tmp 55) 22 rfl 5 i0 (.int .u8 0) 1 1 Tryf.underlying22 HI.out.1 HI.out.2.1 HI.out.2.2.1 HI.out.2.2.2 rfl (by decide) ao n n olds rfl (fun h => ⟨HNo.out h, HNo.out h⟩) (by rw [HLo.out]; omega) (fun b hb j u hj => (HBW.out.cell (p := b.add j) (by rw [add_block]; exact (HOl.out b hb).1)).trans ((HOl.out b hb).2 j u hj)) ⟨w1.heap.size, 0, none⟩ 8 8 (packed d s.size) rfl (by simp [packed]) (packed_cells hA.out.cell) packed_one (by omega) (by have := HN.out; simp only [maxLen]; omega) (by have := HN.out; omega) ?_; intro v5 w5 hown hgrow; have HOw := hide hown; have HGr := hide hgrow; clear hown hgrow))
      rw [← HQ.out]
      have hO := HOw.out
      obtain ⟨hl, h | ⟨g, cap, cur, rfl, hg, hheap, hcp, _, _, _⟩⟩ := HOw.out
      · have := h.2; omega
      · refine ⟨g, cap, Nat.le_trans HBW.out.size hg, (Array.getElem?_eq_some_iff.1 hheap).1, hcp, rfl, fun j v hj => ?_, HBW.out.trans ((Below.refl w.heap.size wr).grown HGr.out HBW.out.size (fun k hk => by cases hk))⟩
        have hjl : j < n + 8 := by
          rcases Nat.lt_or_ge j (n + 8) with h1 | h1
          · exact h1
          · rw [List.getElem?_eq_none (by rw [hl]; omega)] at hj; cases hj
        rw [World.ownsRow.cellAt hO j (by omega)]
        exact hj
end Go.Proofs.Qxb6003907aFmt
