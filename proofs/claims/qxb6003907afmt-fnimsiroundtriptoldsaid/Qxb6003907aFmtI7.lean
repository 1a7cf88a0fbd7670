/-
  ParseIMSI; the law FnIMSIValueReencodes.
-/
import Derived.Test.Qxb6003907aFmtI6
namespace Go.Proofs.Qxb6003907aFmt
open Go.RowKit
set_option linter.unusedSimpArgs false
set_option maxRecDepth 100000 in
theorem parse20 (v : Value) (w : World) (Q : Ending → World → Prop) (h : Calls Tryf.prog 25 #[v] w Q) (hq : ∀ e w', Q e w' → ∃ a c, e = .returned (.tuple #[a, c])) : Calls Tryf.prog 20 #[v] w Q := by
  have H := hide h
  have HQ := hide hq
  clear h hq
  go_enter Tryf.func20, Tryf.ntmps20
  go_wp2_with fail
  refine (unhide H).mono ?_
  intro e w' he
  obtain ⟨a, c, rfl⟩ := HQ.out e w' he
  have HE := hide he
  clear he
  go_wp2_with fail
  exact HE.out
theorem nib_even (x : Nat → Nat) (j : Nat) : nib x (2 * j) = x j % 16 := by
  unfold nib
  rw [if_pos (by omega), show 2 * j / 2 = j by omega, Nat.div_one]
theorem nib_odd (x : Nat → Nat) (j : Nat) : nib x (2 * j + 1) = x j / 16 % 16 := by
  unfold nib
  rw [if_neg (by omega), show (2 * j + 1) / 2 = j by omega]
theorem pkb_back {x : Nat → Nat} {m : Nat} (g : Good x m) (j : Nat) (hj : j < 8) (hx : x j < 256) : pkb (nib x) m j = x j := by
  unfold pkb
  have e1 := nib_even x j
  have e2 := nib_odd x j
  by_cases h1 : 2 * j < m
  · by_cases h2 : 2 * j + 1 < m
    · rw [if_pos h1, if_pos h2]; omega
    · have := g.fill (2 * j + 1) (by omega) (by omega)
      rw [if_pos h1, if_neg h2]; omega
  · have f1 := g.fill (2 * j) (by omega) (by omega)
    have f2 := g.fill (2 * j + 1) (by omega) (by omega)
    rw [if_neg h1, if_neg (by omega)]; omega
theorem digs_size (x : Nat → Nat) (m : Nat) : (ByteArray.mk (digs x m).toArray).size = m := by
  show (digs x m).toArray.size = m
  rw [List.size_toArray, digs_len]
theorem digs_at (x : Nat → Nat) (m i : Nat) (h : i < (ByteArray.mk (digs x m).toArray).size) : ((ByteArray.mk (digs x m).toArray)[i]'h).toNat = 48 + nib x i := by
  have hl := nib_lt x i
  show ((digs x m).toArray[i]'h).toNat = _
  simp [digs]
  omega
theorem digs_ok {x : Nat → Nat} {m : Nat} (g : Good x m) (h15 : m ≤ 15) : textOk ⟨(digs x m).toArray⟩ = true := by
  unfold textOk
  rw [digs_size, decide_eq_true ⟨g.pos, h15⟩, Bool.true_and, List.all_eq_true]
  intro b hb
  unfold digs at hb
  obtain ⟨i, hi, rfl⟩ := List.mem_map.1 hb
  have := g.dig i (List.mem_range.1 hi)
  unfold isDig
  apply decide_eq_true
  rw [UInt8.toNat_ofNat']
  omega
theorem digs_trim {x : Nat → Nat} {m : Nat} (g : Good x m) (h15 : m ≤ 15) (W : World) : Calls Tryf.prog 23 #[.string ⟨(digs x m).toArray⟩, .string ⟨#[48, 49, 50, 51, 52, 53, 54, 55, 56, 57]⟩] W fun e w' => e = .returned (.string ⟨#[]⟩) ∧ Below W.heap.size W w' := by
  have h := Tryf.strings_Trim_digits ⟨(digs x m).toArray⟩ W (by rw [digs_size]; omega)
  have e : Lib.trimS (digs x m) [48, 49, 50, 51, 52, 53, 54, 55, 56, 57] = [] := (trim_nil (digs x m)).2 (by
    have := digs_ok g h15
    unfold textOk at this
    rw [Bool.and_eq_true] at this
    exact this.2)
  have e2 : (ByteArray.mk (digs x m).toArray).data.toList = digs x m := rfl
  rw [e2, e] at h
  exact h
set_option maxRecDepth 100000 in
set_option maxHeartbeats 2000000 in
theorem law6_short (ao : Option Addr) (n cap : Nat) (w : World) (h : n ≠ 8) :
    Calls Tryf.prog 6 #[.slice ao n cap] w fun e w' => e = .returned (.bool true) ∧ Below w.heap.size w w' := by
  have h8 : ((n : Int) == 8) = false := by simp; omega
  go_enter Tryf.func6, Tryf.ntmps6
  go_wp2
  all_goals
    go_ret
    exact ⟨rfl, Below.refl _ _⟩
set_option maxRecDepth 100000 in
theorem zz21_any (ao : Option Addr) (n cap : Nat) (w : World) (hn : (n : Int) ≤ 1048576) : Calls Tryf.prog 21 #[.slice ao n cap] w fun e w' => e = .returned (.bool true) ∧ w' = w := by
  go_enter Tryf.func21, Tryf.ntmps21
  go_wp2
  all_goals first | (exfalso; omega) | (go_ret; exact ⟨rfl, rfl⟩)
set_option maxRecDepth 100000 in
set_option maxHeartbeats 4000000 in
theorem law6_eight (b off cap : Nat) (x : Nat → Nat) (w : World) (hb : b < w.heap.size) (hx : ∀ j, j < 8 → x j < 256) (hr : Row b off 8 x w) :
    Calls Tryf.prog 6 #[.slice (some ⟨b, off, none⟩) 8 cap] w fun e w' => e = .returned (.bool true) ∧ Below w.heap.size w w' := by
  generalize hQ : (fun (e : Ending) (w' : World) => e = .returned (.bool true) ∧ Below w.heap.size w w') = Q
  have HQ := hide hQ
  have HC := hide (clone_any b off 8 cap x w hb (by omega) hr)
  have HX := hide hx
  clear hQ hb hx hr
  go_enter Tryf.func6, Tryf.ntmps6
  go_wp2_with fail
  refine (zz21_any _ 8 cap w (by omega)).mono ?_
  rintro e w0 ⟨rfl, h0⟩
  obtain rfl : w = w0 := h0.symm
  clear h0
  go_wp2_with fail
  refine (unhide HC).mono ?_
  rintro e w1 ⟨rfl, hr1, hs1, hb1⟩
  have HP := hide (parse20 _ w1 _ (parse_any w.heap.size 0 8 x w1 hs1 HX.out hr1) (by
    rintro e w' ⟨(⟨⟨t, v, rfl⟩, _⟩ | ⟨m, _, rfl⟩), _⟩
    · exact ⟨_, _, rfl⟩
    · exact ⟨_, _, rfl⟩))
  have HR1 := hide hr1
  have HS1 := hide hs1
  have HB1 := hide hb1
  clear hr1 hs1 hb1 HC
  go_wp2_with fail
  refine (unhide HP).mono ?_
  rintro e w2 ⟨(⟨⟨t, v, rfl⟩, _⟩ | ⟨m, hg, rfl⟩), hb2⟩
  · have HB2 := hide (HB1.out.trans (hb2.mono HB1.out.size))
    clear hb2 HP
    go_wp2_with fail
    rw [← HQ.out]
    exact ⟨rfl, HB2.out⟩
  · have HB2 := hide (HB1.out.trans (hb2.mono HB1.out.size))
    have HR2 : Hid (Row w.heap.size 0 8 x w2) := fun j hj => (hb2.cell (p := ⟨w.heap.size, 0 + j, none⟩) HS1.out).trans (HR1.out j hj)
    have HS2 := hide (Nat.lt_of_lt_of_le HS1.out hb2.size)
    have HG := hide hg
    have hle := hg.le
    have hpos := hg.pos
    clear hb2 HP hg
    by_cases h16 : m = 16
    · subst h16
      have HA := hide (append_bad ⟨(digs x 16).toArray⟩ (by unfold textOk; rw [digs_size]; rfl) (by rw [digs_size]; omega) (.slice none 0 0) w2)
      have hsz : ((ByteArray.mk (digs x 16).toArray).size : Int) = 16 := by rw [digs_size]; rfl
      generalize hS : ByteArray.mk (digs x 16).toArray = S at HA hsz ⊢
      clear hS hle hpos
      go_wp2_with fail
      refine (unhide HA).mono ?_
      rintro e w3 ⟨⟨t, v, rfl⟩, hb3⟩
      have HB3 := hide (HB2.out.trans (hb3.mono HB2.out.size))
      clear hb3 HA
      go_wp2_with fail
      rw [← HQ.out]
      exact ⟨rfl, HB3.out⟩
    · have h15 : m ≤ 15 := by omega
      have HA := hide (append_good ⟨(digs x m).toArray⟩ (nib x) (by rw [digs_size]; exact hpos) (by rw [digs_size]; omega) (fun i h => digs_at x m i h) (fun i h => HG.out.dig i (by rw [digs_size] at h; exact h)) none 0 [] w2 (by rw [toList_empty, digs_size]; exact decide_eq_false (by omega)) (hide (fun W => digs_trim HG.out h15 W)) (fun _ => rfl) rfl nofun (by omega))
      have hsz : ((ByteArray.mk (digs x m).toArray).size : Int) = m := by rw [digs_size]
      rw [digs_size] at HA
      have hm16 : ((m : Int) == 16) = false := by simp; omega
      generalize hS : ByteArray.mk (digs x m).toArray = S at HA hsz ⊢
      clear hS
      go_wp2_with fail
      refine (unhide HA).mono ?_
      rintro e w3 ⟨B, cap3, hB, hBl, _, rfl, hcells, hb3⟩
      have HB3 := hide (HB2.out.trans (hb3.mono HB2.out.size))
      have hrow3 : Row B 0 8 x w3 := fun j hj => by
        rw [Nat.zero_add]
        refine hcells j _ ?_
        rw [List.nil_append, packed, List.getElem?_map, List.getElem?_range hj, Option.map_some, pkb_back HG.out j hj (HX.out j hj)]
      have hrowD : Row w.heap.size 0 8 x w3 := fun j hj => (hb3.cell (p := ⟨w.heap.size, 0 + j, none⟩) HS2.out).trans (HR2.out j hj)
      have HSm := hide (same_any B 0 cap3 w.heap.size 0 8 8 8 x x w3 (by omega) (by omega) hrow3 hrowD (fun _ _ _ => rfl) rfl)
      clear hrow3 hrowD hcells hb3 HA
      go_wp2_with fail
      refine (unhide HSm).mono ?_
      rintro e w4 ⟨rfl, k, rfl⟩
      clear HSm
      go_wp2_with fail
      rw [← HQ.out]
      refine ⟨rfl, ⟨HB3.out.os, HB3.out.tape, HB3.out.output, HB3.out.size, HB3.out.block⟩⟩
end Go.Proofs.Qxb6003907aFmt
