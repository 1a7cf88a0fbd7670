/-
  parseTBCD at eight bytes.
-/
import Derived.Test.Qxb6003907aFmtI2
namespace Go.Proofs.Qxb6003907aFmt
open Go.RowKit
set_option linter.unusedSimpArgs false
def ints (x : Nat → Nat) : List Int := [(x 0 : Int), (x 1 : Int), (x 2 : Int), (x 3 : Int), (x 4 : Int), (x 5 : Int), (x 6 : Int), (x 7 : Int)]
theorem bytes_of {b off : Nat} {x : Nat → Nat} {W : World} (h : ∀ j, j < 8 → W.cell? ⟨b, off + j, none⟩ = some (.int .u8 (x j))) : Bytes ⟨b, off, none⟩ (ints x) W := by
  intro j v hj
  have hplain : (⟨b, off, none⟩ : Addr).add j = ⟨b, off + j, none⟩ := by unfold Addr.add; split <;> simp_all
  rw [hplain]
  have hl : j < 8 := by
    rcases Nat.lt_or_ge j 8 with h1 | h1
    · exact h1
    · rw [List.getElem?_eq_none (by simpa [ints] using h1)] at hj; cases hj
  rw [h j hl]
  rcases (by omega : j = 0 ∨ j = 1 ∨ j = 2 ∨ j = 3 ∨ j = 4 ∨ j = 5 ∨ j = 6 ∨ j = 7) with rfl | rfl | rfl | rfl | rfl | rfl | rfl | rfl <;> exact hj
theorem nib_bits (x : Nat → Nat) (i : Nat) (hx : x (i / 2) < 256) : bits .and .u8 ((x (i / 2) : Int) / 2 ^ (4 * (i % 2))) 15 = (nib x i : Int) := by
  have e : ((x (i / 2) : Int) / 2 ^ (4 * (i % 2))) = ((x (i / 2) / (if i % 2 = 0 then 1 else 16) : Nat) : Int) := by
    rcases (by omega : i % 2 = 0 ∨ i % 2 = 1) with h | h
    · rw [h, if_pos rfl]; simp
    · rw [h, if_neg (by decide)]; simp
  rw [e]
  have hl : x (i / 2) / (if i % 2 = 0 then 1 else 16) < 256 := Nat.lt_of_le_of_lt (Nat.div_le_self _ _) hx
  unfold nib
  generalize x (i / 2) / (if i % 2 = 0 then 1 else 16) = y at hl ⊢
  have := bits_mask .u8 8 (by decide) wraps_u8 4 (by decide) (y : Int) (by omega) (by omega)
  rw [show ((2 : Int) ^ 4 - 1) = 15 from rfl, show ((2 : Int) ^ 4) = 16 from rfl] at this
  rw [this]
  omega
set_option maxRecDepth 100000 in
set_option maxHeartbeats 4000000 in
theorem parse_any (b off cap : Nat) (x : Nat → Nat) (w : World) (hB' : b < w.heap.size) (hx : ∀ j, j < 8 → x j < 256) (hc : ∀ j, j < 8 → w.cell? ⟨b, off + j, none⟩ = some (.int .u8 (x j))) :
    Calls Tryf.prog 25 #[.slice (some ⟨b, off, none⟩) 8 cap] w fun e w' =>
      (((∃ t v, e = .returned (.tuple #[.string ⟨#[]⟩, .iface t v])) ∧ ¬ ∃ m, Good x m) ∨ ∃ m, Good x m ∧ e = .returned (.tuple #[.string ⟨(digs x m).toArray⟩, .nilIface])) ∧ Below w.heap.size w w' := by
  generalize hQ : (fun (e : Ending) (w' : World) => (((∃ t v, e = .returned (.tuple #[.string ⟨#[]⟩, .iface t v])) ∧ ¬ ∃ m, Good x m) ∨ ∃ m, Good x m ∧ e = .returned (.tuple #[.string ⟨(digs x m).toArray⟩, .nilIface])) ∧ Below w.heap.size w w') = Q
  have HQ := hide hQ; clear hQ
  have HC := hide hc
  have HX := hide hx
  have hmk := run_make16
  have hOwn := own_made w
  generalize hZ : zeros16 = Z at hmk hOwn
  clear hZ hc hx
  have HO := hide hOwn
  have HB1 := hide ((Below.refl w.heap.size w).alloc (Nat.le_refl _) (.cells Z 5))
  clear hOwn
  go_enter Tryf.func25, Tryf.ntmps25
  go_wp2_with fail
  go_loopw [4, 5, 15] (fun ds fl ii wr => ∃ (i j : Nat) (f : Bool), i ≤ 16 ∧ Hid (Seen x i j f) ∧ ds = .slice (some ⟨w.heap.size, 0, none⟩) j 16 ∧ fl = .bool f ∧ ii = .int .i64 i ∧ Hid (Own w.heap.size (digs x j) wr) ∧ Hid (Below w.heap.size w wr)) (fun _ _ ii _ => 16 - (intOf ii).toNat)
  case atStart =>
    exact ⟨0, 0, false, Nat.zero_le _, ⟨Nat.le_refl _, fun _ => rfl, nofun, nofun, nofun⟩, rfl, rfl, rfl, HO, HB1⟩
  case round =>
    obtain ⟨i, j, f, hi, hS, rfl, rfl, rfl, hO, hB⟩ := hrel
    by_cases hlt : i < 16
    · have hcell : wr.cell? ⟨b, off + i / 2, none⟩ = some (.int .u8 (x (i / 2))) := ((hB.out).cell (p := ⟨b, off + i / 2, none⟩) hB').trans (HC.out (i / 2) (by omega))
      have hnb := nib_bits x i (HX.out (i / 2) (by omega))
      have hnl := nib_lt x i
      obtain ⟨nn, hnn⟩ : ∃ nn, nib x i = nn := ⟨_, rfl⟩
      rw [hnn] at hnb hnl
      have HNN := hide hnn
      clear hnn
      have hbw : b < wr.heap.size := Nat.lt_of_lt_of_le hB' hB.out.size
      have HBy : Hid (∀ o, Bytes ⟨b, off, none⟩ (ints x) (wr.alloc o)) := fun o => bytes_of (fun j hj => by
        have h1 : Below w.heap.size w (wr.alloc o) := hB.out.alloc (by have := hB.out.size; omega) o
        exact (h1.cell (p := ⟨b, off + j, none⟩) hB').trans (HC.out j hj))
      rcases (by omega : nn = 15 ∨ (9 < nn ∧ nn ≠ 15) ∨ nn ≤ 9) with h15 | ⟨h9, h15⟩ | h9
      · subst h15
        go_wp2_with fail
        go_roundw
        case rel => exact ⟨i + 1, j, true, by omega, hS.out.filler HNN.out, rfl, rfl, by go_num, hO, hB⟩
        case measure => simp [intOf]; omega
      · have hne : ((nn : Int) == 15) = false := by simp; omega
        have h9' : (9 : Int) < nn := by omega
        go_wp2_with fail
        refine (errorfB ⟨b, off, none⟩ cap (ints x) (nn : Int) wr.heap.size _ (HBy.out _) (by simp [ints]) (by simp)).mono ?_
        rintro e w2 ⟨⟨t, v, rfl⟩, hb2⟩
        have HB2 := hide (hB.out.trans (((Below.refl wr.heap.size wr).alloc (Nat.le_refl _) _).trans (hb2.mono (by simp)) |>.mono hB.out.size))
        clear hb2
        go_wp2_with fail
        rw [← HQ.out]
        exact ⟨.inl ⟨⟨t, v, rfl⟩, bad_nib hlt (by rw [HNN.out]; omega) (by rw [HNN.out]; exact h15)⟩, HB2.out⟩
      · have hne : ((nn : Int) == 15) = false := by simp; omega
        have h9' : (nn : Int) ≤ 9 := by omega
        cases f
        · have hji := hS.out.same rfl
          have hlen : (digs x j).length = j := digs_len x j
          have HLEN := hide hlen
          have hby : (48 + (nn : Int)) = ((UInt8.ofNat (48 + nn)).toNat : Nat) := by rw [UInt8.toNat_ofNat']; omega
          have HBYT := hide hby
          have hj16 : j < 16 := by omega
          clear hlen hby hji
          go_wp2_with (first | (at_builtin; refine app1 wr rfl (.tmp 28) (.tmp 31) rfl w.heap.size j (digs x j) (UInt8.ofNat (48 + nn)) _ HBYT.out HLEN.out rfl rfl hO.out hj16 ?_; intro w1 hown1 hgrow1))
          go_roundw
          case rel =>
            have hown2 : Own w.heap.size (digs x (j + 1)) w1 := by
              have e := hS.out.same rfl
              have e2 := HNN.out
              rw [← e] at e2
              rw [digs_succ, e2]; exact hown1
            exact ⟨i + 1, j + 1, false, by omega, hS.out.digit (by rw [HNN.out]; exact h9), rfl, rfl, by go_num, hown2, hB.out.trans (below_grown hgrow1 hB.out.size)⟩
          case measure => simp [intOf]; omega
        · go_wp2_with fail
          refine (errorfC ⟨b, off, none⟩ cap (ints x) wr.heap.size _ (HBy.out _) (by simp [ints])).mono ?_
          rintro e w2 ⟨⟨t, v, rfl⟩, hb2⟩
          have HB2 := hide (hB.out.trans (((Below.refl wr.heap.size wr).alloc (Nat.le_refl _) _).trans (hb2.mono (by simp)) |>.mono hB.out.size))
          clear hb2
          go_wp2_with fail
          rw [← HQ.out]
          exact ⟨.inl ⟨⟨t, v, rfl⟩, bad_after hlt hS.out (by rw [HNN.out]; exact h9)⟩, HB2.out⟩
    · obtain rfl : i = 16 := by omega
      have HBy : Hid (∀ o, Bytes ⟨b, off, none⟩ (ints x) (wr.alloc o)) := fun o => bytes_of (fun j hj => by
        have h1 : Below w.heap.size w (wr.alloc o) := hB.out.alloc (by have := hB.out.size; omega) o
        exact (h1.cell (p := ⟨b, off + j, none⟩) hB').trans (HC.out j hj))
      by_cases hj : j = 0
      · subst hj
        go_wp2_with fail
        refine (errorfD ⟨b, off, none⟩ cap (ints x) wr.heap.size _ (HBy.out _) (by simp [ints])).mono ?_
        rintro e w2 ⟨⟨t, v, rfl⟩, hb2⟩
        have HB2 := hide (hB.out.trans (((Below.refl wr.heap.size wr).alloc (Nat.le_refl _) _).trans (hb2.mono (by simp)) |>.mono hB.out.size))
        clear hb2
        go_wp2_with fail
        rw [← HQ.out]
        exact ⟨.inl ⟨⟨t, v, rfl⟩, bad_none hS.out⟩, HB2.out⟩
      · have hcv := own_convert hO.out
        rw [digs_len] at hcv
        have hj0 : ((j : Int) == 0) = false := by simp; omega
        go_wp2_with fail
        rw [← HQ.out]
        exact ⟨.inr ⟨j, hS.out.good (by omega), rfl⟩, hB.out⟩
end Go.Proofs.Qxb6003907aFmt
