/-
  FnIMSIRoundTrip: the walk.
-/
import Derived.Test.Qxb6003907aFmtI9
namespace Go.Proofs.Qxb6003907aFmt
open Go.RowKit
set_option linter.unusedSimpArgs false
def rowV (x : Nat → Nat) (n : Nat) : List Value := (List.range n).map fun j => Value.int .u8 (x j)
theorem rowV_len (x : Nat → Nat) (n : Nat) : (rowV x n).length = n := by simp [rowV]
theorem rowV_get (x : Nat → Nat) (n j : Nat) (h : j < n) : (rowV x n)[j]? = some (.int .u8 (x j)) := by
  unfold rowV; rw [List.getElem?_map, List.getElem?_range h]; rfl
theorem rowV_at (x : Nat → Nat) (n j : Nat) (u : Value) (h : (rowV x n)[j]? = some u) : j < n ∧ u = .int .u8 (x j) := by
  by_cases hj : j < n
  · rw [rowV_get x n j hj] at h; exact ⟨hj, (Option.some.inj h).symm⟩
  · rw [List.getElem?_eq_none (by rw [rowV_len]; omega)] at h; cases h
set_option maxRecDepth 100000 in
set_option maxHeartbeats 4000000 in
theorem law5_main (ao : Option Addr) (n cap : Nat) (x : Nat → Nat) (s : ByteArray) (w : World) (hs : (s.size : Int) ≤ 262144) (hn : (n : Int) + s.size ≤ 1048576) (h0 : ao = none → n = 0 ∧ cap = 0) (hr : ∀ a, ao = some a → 1 ≤ n → ∃ b off, a = ⟨b, off, none⟩ ∧ b < w.heap.size ∧ Row b off n x w) :
    Calls Tryf.prog 5 #[.slice ao n cap, .string s] w fun e w' => e = .returned (.bool true) ∧ Below w.heap.size w w' := by
  generalize hQ : (fun (e : Ending) (w' : World) => e = .returned (.bool true) ∧ Below w.heap.size w w') = Q
  have HQ := hide hQ
  have HZ := hide (zz17_any ao n cap s w hn)
  have HC := hide (clone_gen ao n cap x w (by omega) h0 hr)
  clear hQ h0 hr
  go_enter Tryf.func5, Tryf.ntmps5
  go_wp2_with fail
  refine (unhide HZ).mono ?_
  rintro e w0 ⟨rfl, h0⟩
  obtain rfl : w = w0 := h0.symm
  clear h0
  go_wp2_with fail
  refine (unhide HC).mono ?_
  rintro e w1 ⟨⟨ao1, rfl, hr1, hge1⟩, hb1⟩
  have HC2 := hide (clone_gen ao1 n n x w1 (by omega) (fun h => ⟨hr1.none_ h, hr1.none_ h⟩) (fun a ha _ => by
    obtain ⟨b, e, hl, hrow⟩ := hr1.some_ a ha
    exact ⟨b, 0, e, hl, hrow⟩))
  have HR1 := hide hr1
  have HB1 := hide hb1
  clear hr1 hge1 hb1 HC HZ
  go_wp2_with fail
  refine (unhide HC2).mono ?_
  rintro e w2 ⟨⟨ao2, rfl, hr2, hge2⟩, hb2⟩
  have HR2 := hide hr2
  have HR12 := hide (HR1.out.on hb2)
  have HB2 := hide (HB1.out.trans (hb2.mono HB1.out.size))
  clear hr2 hge2 hb2 HC2
  have HTx := hide (fun W => text_any s W (by omega))
  obtain ⟨ok, hok⟩ : ∃ ok, textOk s = ok := ⟨_, rfl⟩
  rw [hok] at HTx
  cases ok
  · have HA := hide (append_bad s hok (by omega) (.slice ao1 n n) w2)
    go_wp2_with fail
    refine (unhide HA).mono ?_
    rintro e w3 ⟨⟨t, v, rfl⟩, hb3⟩
    have HB3 := hide (HB2.out.trans (hb3.mono HB2.out.size))
    have HSm := hide (fun k => same_gen ao1 ao2 n n n x (w3.drewN k) (by omega) ((HR12.out.on hb3).on ⟨rfl, rfl, rfl, Nat.le_refl _, fun _ _ => rfl⟩) ((HR2.out.on hb3).on ⟨rfl, rfl, rfl, Nat.le_refl _, fun _ _ => rfl⟩))
    clear hb3 HA
    go_wp2_with fail
    go_quiet ((go_at_call 19; exact Calls.quiet_of_same (unhide HTx _)))
    go_wp2_with fail
    refine (unhide HSm _).mono ?_
    rintro e w4 ⟨rfl, k, rfl⟩
    clear HSm
    go_wp2_with fail
    rw [← HQ.out]
    exact ⟨rfl, ⟨HB3.out.os, HB3.out.tape, HB3.out.output, HB3.out.size, HB3.out.block⟩⟩
  · obtain ⟨h1, h15, hall⟩ := ok_parts hok
    have hd : ∀ t, t < s.size → dg s t ≤ 9 := fun t ht => (ok_at hok t ht).2
    have hTr : ∀ W, Calls Tryf.prog 23 #[.string s, .string ⟨#[48, 49, 50, 51, 52, 53, 54, 55, 56, 57]⟩] W fun e w' => e = .returned (.string ⟨#[]⟩) ∧ Below W.heap.size W w' := fun W => by
      have h := Tryf.strings_Trim_digits s W (by omega)
      have e : Lib.trimS s.data.toList [48, 49, 50, 51, 52, 53, 54, 55, 56, 57] = [] := (trim_nil s.data.toList).2 hall
      rw [e] at h
      exact h
    have HA := hide (append_good s (dg s) h1 (by omega) (fun i h => (ok_at hok i h).1) hd ao1 n (rowV x n) w2 (by rw [toList_empty]; exact decide_eq_false (by omega)) (hide hTr) HR12.out.none_ (rowV_len x n) (fun b hb => by
      obtain ⟨b', rfl, hl, hrow⟩ := HR12.out.some_ b hb
      exact ⟨hl, fun j u hj => by
        obtain ⟨hj', rfl⟩ := rowV_at x n j u hj
        have hadd : (⟨b', 0, none⟩ : Addr).add j = ⟨b', 0 + j, none⟩ := by unfold Addr.add; split <;> simp_all
        rw [hadd]; exact hrow j hj'⟩) (by omega))
    have HOK := hide hok
    clear hTr hall
    go_wp2_with fail
    refine (unhide HA).mono ?_
    rintro e w3 ⟨B, cap3, hB, hBl, hcp, rfl, hcells, hb3⟩
    have HB3 := hide (HB2.out.trans (hb3.mono HB2.out.size))
    have hrowB : IsRow (some ⟨B, 0, none⟩) n x w3 := ⟨nofun, fun a ha => ⟨B, (Option.some.inj ha).symm, hBl, fun j hj => by
      rw [Nat.zero_add]
      refine hcells j _ ?_
      rw [List.getElem?_append_left (by rw [rowV_len]; exact hj)]
      exact rowV_get x n j hj⟩⟩
    have hrowP : ∀ j, j < 8 → w3.cell? ⟨B, n + j, none⟩ = some (.int .u8 (pkb (dg s) s.size j)) := fun j hj => by
      refine hcells (n + j) _ ?_
      rw [List.getElem?_append_right (by rw [rowV_len]; omega), rowV_len, show n + j - n = j by omega, packed, List.getElem?_map, List.getElem?_range hj]
      rfl
    have HSm := hide (fun k => same_gen (some ⟨B, 0, none⟩) ao2 n cap3 n x (w3.drewN k) (by omega) (hrowB.on ⟨rfl, rfl, rfl, Nat.le_refl _, fun _ _ => rfl⟩) ((HR2.out.on hb3).on ⟨rfl, rfl, rfl, Nat.le_refl _, fun _ _ => rfl⟩))
    have HP := hide (fun k c => parse20 _ (w3.drewN k) _ (parse_any B n c (pkb (dg s) s.size) (w3.drewN k) hBl (fun j _ => pkb_lt (dg s) s.size j hd) hrowP) (by
      rintro e w' ⟨(⟨⟨t, v, rfl⟩, _⟩ | ⟨m, _, rfl⟩), _⟩
      · exact ⟨_, _, rfl⟩
      · exact ⟨_, _, rfl⟩))
    have HGd := hide (good_pkb (dg s) s.size h1 h15 hd)
    have HBack := hide (digs_back hok)
    clear hrowB hrowP hcells hb3 HA hok
    go_wp2_with fail
    go_quiet ((go_at_call 19; exact Calls.quiet_of_same (unhide HTx _)))
    go_wp2_with fail
    refine (unhide HSm _).mono ?_
    rintro e w4 ⟨rfl, k, rfl⟩
    clear HSm
    go_wp2_with fail
    refine (unhide HP _ _).mono ?_
    rintro e w5 ⟨(⟨⟨t, v, rfl⟩, hno⟩ | ⟨m, hg, rfl⟩), hb5⟩
    · exact absurd ⟨_, HGd.out⟩ hno
    · obtain rfl := good_unique HGd.out hg
      rw [HBack.out]
      have HB5 := hide (HB3.out.trans (Below.mono ⟨hb5.os, hb5.tape, hb5.output, hb5.size, hb5.block⟩ HB3.out.size))
      clear hb5 hg HP
      go_wp2_with fail
      rw [← HQ.out]
      exact ⟨rfl, HB5.out⟩
end Go.Proofs.Qxb6003907aFmt
