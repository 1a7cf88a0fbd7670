/-
  FnIMSIRoundTrip: the law.
-/
import Derived.Test.Qxb6003907aFmtI8
namespace Go.Proofs.Qxb6003907aFmt
open Go.RowKit
set_option linter.unusedSimpArgs false
/-- The digits of a text. -/
def dg (s : ByteArray) (i : Nat) : Nat := (s.get! i).toNat - 48
theorem ok_parts {s : ByteArray} (h : textOk s = true) : 1 ≤ s.size ∧ s.size ≤ 15 ∧ s.data.toList.all isDig = true := by
  unfold textOk at h
  rw [Bool.and_eq_true, decide_eq_true_eq] at h
  exact ⟨h.1.1, h.1.2, h.2⟩
theorem ok_at {s : ByteArray} (h : textOk s = true) (i : Nat) (hi : i < s.size) : (s[i]'hi).toNat = 48 + dg s i ∧ dg s i ≤ 9 := by
  have hm : s[i]'hi ∈ s.data.toList := by
    show s.data[i]'hi ∈ s.data.toList
    exact Array.getElem_mem_toList hi
  have h1 := List.all_eq_true.1 (ok_parts h).2.2 _ hm
  unfold isDig at h1
  rw [decide_eq_true_eq] at h1
  have hg : s.get! i = s[i]'hi := Utf8W.get!_of_lt s i hi
  unfold dg
  rw [hg]
  omega
theorem nib_pkb (d : Nat → Nat) (m i : Nat) (hd : ∀ t, t < m → d t ≤ 9) (hi : i < 16) : nib (pkb d m) i = if i < m then d i else 15 := by
  have hlt : ∀ t, (if t < m then d t else 15) < 16 := fun t => by
    split
    · have := hd t (by assumption); omega
    · omega
  rcases (by omega : i % 2 = 0 ∨ i % 2 = 1) with h | h
  · obtain ⟨j, rfl⟩ : ∃ j, i = 2 * j := ⟨i / 2, by omega⟩
    rw [nib_even]
    unfold pkb
    have := hlt (2 * j)
    omega
  · obtain ⟨j, rfl⟩ : ∃ j, i = 2 * j + 1 := ⟨i / 2, by omega⟩
    rw [nib_odd]
    unfold pkb
    have := hlt (2 * j)
    have := hlt (2 * j + 1)
    omega
theorem pkb_lt (d : Nat → Nat) (m j : Nat) (hd : ∀ t, t < m → d t ≤ 9) : pkb d m j < 256 := by
  unfold pkb
  have hlt : ∀ t, (if t < m then d t else 15) < 16 := fun t => by
    split
    · have := hd t (by assumption); omega
    · omega
  have := hlt (2 * j)
  have := hlt (2 * j + 1)
  omega
theorem good_pkb (d : Nat → Nat) (m : Nat) (h1 : 1 ≤ m) (h15 : m ≤ 15) (hd : ∀ t, t < m → d t ≤ 9) : Good (pkb d m) m :=
  ⟨h1, by omega, fun i hi => by rw [nib_pkb d m i hd (by omega), if_pos hi]; exact hd i hi, fun i h2 h3 => by rw [nib_pkb d m i hd h3, if_neg (by omega)]⟩
theorem digs_back {s : ByteArray} (h : textOk s = true) : ByteArray.mk (digs (pkb (dg s) s.size) s.size).toArray = s := by
  obtain ⟨h1, h15, _⟩ := ok_parts h
  have hd : ∀ t, t < s.size → dg s t ≤ 9 := fun t ht => (ok_at h t ht).2
  apply ByteArray.ext
  apply Array.ext
  · show (digs (pkb (dg s) s.size) s.size).toArray.size = s.data.size
    rw [List.size_toArray, digs_len]; rfl
  · intro i hi1 hi2
    have hi : i < s.size := hi2
    have e := (ok_at h i hi).1
    apply UInt8.toNat_inj.1
    show _ = (s[i]'hi).toNat
    rw [e]
    simp only [digs, List.getElem_toArray, List.getElem_map, List.getElem_range]
    rw [UInt8.toNat_ofNat', nib_pkb (dg s) s.size i hd (by omega), if_pos hi]
    have := hd i hi
    omega
end Go.Proofs.Qxb6003907aFmt
