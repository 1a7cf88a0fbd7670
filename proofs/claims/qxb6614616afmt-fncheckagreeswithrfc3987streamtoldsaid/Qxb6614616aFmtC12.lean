/-
  The reader as a plain machine.
-/
import Derived.Test.Qxb6614616aFmtC11
namespace Go.Proofs.Qxb6614616aFmt
open Go.RowKit Go.Lib
structure St where
  k : Nat
  p : Nat → Nat
  bad : Bool
  ref : Bool
def St.scan (S : St) (c : Nat) : Nat × Nat := scanN (S.k + 1) (setP S.p S.k c 0) (setP S.p S.k c 1) (setP S.p S.k c 2) (setP S.p S.k c 3)
def St.step (a : Nat) (S : St) (c : Nat) : St :=
  if c < 128 then ⟨S.k, S.p, S.bad, S.ref || !allow c⟩
  else ⟨(uniNext a (S.k + 1) (S.scan c).1 (S.scan c).2 S.bad S.ref).1, setP S.p S.k c, (uniNext a (S.k + 1) (S.scan c).1 (S.scan c).2 S.bad S.ref).2.1, (uniNext a (S.k + 1) (S.scan c).1 (S.scan c).2 S.bad S.ref).2.2⟩
def stAt (a : Nat) (s : ByteArray) : Nat → St
  | 0 => ⟨0, fun _ => 0, false, false⟩
  | i + 1 => (stAt a s i).step a (s.get! i).toNat
structure St.ok (S : St) : Prop where
  byte : ∀ j, j < 4 → S.p j < 256
  short : S.k ≤ 3
  lead : 1 ≤ S.k → 128 ≤ S.p 0 ∧ S.k < firstT (S.p 0) % 8
theorem St.ok.pre {S : St} (h : S.ok) {c : Nat} (h0 : 128 ≤ c) (h1 : c < 256) : 128 ≤ setP S.p S.k c 0 ∧ setP S.p S.k c 0 < 256 ∧ S.k + 1 ≤ firstT (setP S.p S.k c 0) % 8 := by
  unfold setP
  by_cases e : 0 = S.k
  · rw [if_pos e]
    rcases lead_cases c h0 (by omega) with h | h <;> omega
  · rw [if_neg e]
    have := h.lead (by omega)
    have := h.byte 0 (by omega)
    omega
theorem scan_low {n b0 b1 b2 b3 : Nat} (h0 : 128 ≤ b0) (h1 : b0 < 256) (hz : (scanN n b0 b1 b2 b3).1 = 0) : n < firstT b0 % 8 ∧ firstT b0 % 8 ≤ 4 := by
  rcases lead_cases b0 h0 (by omega) with h | ⟨ha, hb, hc⟩
  · unfold scanN at hz; rw [if_pos h] at hz; cases hz
  · refine ⟨?_, hc⟩
    unfold scanN at hz
    rw [if_neg (by omega)] at hz
    unfold stepN at hz
    repeat' split at hz
    all_goals first | assumption | cases hz
theorem St.ok.step {S : St} (h : S.ok) (a c : Nat) (h1 : c < 256) : (S.step a c).ok := by
  unfold St.step
  by_cases hc : c < 128
  · rw [if_pos hc]; exact ⟨h.byte, h.short, h.lead⟩
  · rw [if_neg hc]
    obtain ⟨p0, p1, p2⟩ := h.pre (by omega) h1
    refine ⟨fun j hj => ?_, ?_, ?_⟩
    · show setP S.p S.k c j < 256
      unfold setP; split
      · exact h1
      · exact h.byte j hj
    · show (uniNext a (S.k + 1) (S.scan c).1 (S.scan c).2 S.bad S.ref).1 ≤ 3
      unfold uniNext
      split
      · have := scan_low p0 p1 (by assumption)
        show S.k + 1 ≤ 3
        omega
      · split <;> exact Nat.zero_le _
    · show 1 ≤ (uniNext a (S.k + 1) (S.scan c).1 (S.scan c).2 S.bad S.ref).1 → 128 ≤ setP S.p S.k c 0 ∧ (uniNext a (S.k + 1) (S.scan c).1 (S.scan c).2 S.bad S.ref).1 < firstT (setP S.p S.k c 0) % 8
      unfold uniNext
      split
      · have := scan_low p0 p1 (by assumption)
        intro _
        exact ⟨p0, this.1⟩
      · split <;> (intro h; exact absurd h (Nat.not_succ_le_zero 0))
theorem ok_at (a : Nat) (s : ByteArray) : ∀ i, (stAt a s i).ok
  | 0 => ⟨fun _ _ => by show 0 < 256; omega, Nat.zero_le _, fun h => absurd h (Nat.not_succ_le_zero 0)⟩
  | i + 1 => (ok_at a s i).step a _ (UInt8.toNat_lt _)
end Go.Proofs.Qxb6614616aFmt
