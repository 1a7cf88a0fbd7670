/-
  A row of digits that the parser owns; the nibbles.
-/
import Derived.Test.Qxb6003907aFmtI1
import Derived.ArgAppend
import Derived.Laws.OwnMore
import Derived.Laws.BytesArg
import Derived.Deep.RegionHeld3
namespace Go.Proofs.Qxb6003907aFmt
open Go.RowKit
def enc8 (b : UInt8) : Value := .int .u8 (b.toNat : Int)
def Own (D : Nat) (l : List UInt8) (w : World) : Prop := w.ownsRow D 5 1 (.slice (some ⟨D, 0, none⟩) l.length 16) l.length (l.map enc8)
theorem info5 : (Tryf.prog.info? 5).map (fun i => (i.zero, i.size, i.bytes)) = some (some (.int .u8 0), 1, 1) := by kernel_rfl
theorem app1 {ops : Array Oper} {rest : List Oper} {o : Oper} {a : Act} {Q : Exit → Act → World → Prop} (wr : World) (hg : o.guard = none) (s x : Operand)
    (hop : o.op = Op.call { callee := Callee.builtin Builtin.append, args := #[s, x], argTypes := #[22, 22] }) (D n : Nat) (l : List UInt8) (b : UInt8) (z : Int) (hz : z = b.toNat) (hn : l.length = n)
    (hs : a.eval s = .slice (some ⟨D, 0, none⟩) n 16) (hx : a.eval x = .slice (some ⟨wr.heap.size, 0, none⟩) 1 1) (hown : Own D l wr) (hlen : n < 16)
    (hK : ∀ w1, Own D (l ++ [b]) w1 → wr.grownBy w1 (some D) → wpList Tryf.prog ops Q rest (a.put o.dst (.slice (some ⟨D, 0, none⟩) (n + 1) 16)) w1) :
    wpList Tryf.prog ops Q (o :: rest) a (wr.alloc (.cells #[.int .u8 z] 5)) := by
  subst hz
  subst hn
  obtain ⟨i0, hi, hz0, hz1, hz2⟩ := info_parts info5
  refine wpList_append_fits _ hg s x 22 hop D 5 i0 1 Tryf.underlying22 hi hz1 D l.length 16 (l.map enc8) hs (hown.alloc _) ⟨wr.heap.size, 0, none⟩ 1 1 [enc8 b] hx rfl ?_ ?_ (by omega) ?_
  · intro j u hj
    match j, hj with
    | 0, hj =>
      simp at hj
      subst hj
      simp [Addr.add, enc8]
  · intro u hu
    simp at hu
    subst hu
    rfl
  · intro w1 h1 h2
    refine hK w1 ?_ ?_
    · have e : (l ++ [b]).length = l.length + 1 := by simp
      unfold Own
      rw [e, List.map_append]
      exact h1
    · exact ⟨h2.os, h2.tape, h2.output, Nat.le_trans (by simp) h2.size, fun k hk hne => (h2.block k (by simp; omega) hne).trans (by
        show (wr.heap.push _)[k]? = _
        rw [Array.getElem?_push_lt hk, Array.getElem?_eq_getElem hk])⟩
theorem grownBy_trans {a b c : World} {r : Option Nat} (h : a.grownBy b r) (k : b.grownBy c r) : a.grownBy c r :=
  ⟨k.os.trans h.os, k.tape.trans h.tape, k.output.trans h.output, Nat.le_trans h.size k.size, fun i hi hne => (k.block i (Nat.lt_of_lt_of_le hi h.size) hne).trans (h.block i hi hne)⟩
theorem grow_cell {w wr : World} {D B j : Nat} {v : Value} (hg : w.grownBy wr (some D)) (hne : B ≠ D) (h : w.cell? ⟨B, j, none⟩ = some v) : wr.cell? ⟨B, j, none⟩ = some v :=
  hg.cell h (by intro e; exact hne (Option.some.inj e))
theorem below_grown {D : Nat} {w wr : World} (hg : w.grownBy wr (some D)) (hD : D ≤ w.heap.size) : Below D w wr :=
  (Below.refl D w).grown hg hD (fun k hk => by cases hk; exact Nat.le_refl _)
theorem toNat_byte (b : UInt8) : UInt8.ofNat ((b.toNat : Int).toNat) = b := by
  rw [Int.toNat_natCast, UInt8.ofNat_toNat]
theorem own_convert {D : Nat} {l : List UInt8} {w : World} (h : Own D l w) : (convert 22 9 (.slice (some ⟨D, 0, none⟩) l.length 16)).run Tryf.prog w = .ok (.string ⟨l.toArray⟩) w := by
  have e : strOfNums (l.map fun b => (b.toNat : Int)) = ⟨l.toArray⟩ := by
    unfold strOfNums
    rw [List.map_map]
    congr 2
    conv => rhs; rw [← List.map_id l]
    apply List.map_congr_left
    intro b _
    exact toNat_byte b
  have := run_convert_bytes_arg (P := Tryf.prog) w 22 5 Tryf.underlying22 Tryf.underlying5 D 0 l.length 16 (l.map fun b => (b.toNat : Int)) (by simp) (fun i hi => by
    rw [Nat.zero_add, World.ownsRow.cellAt h i (by omega), List.getElem?_map, List.getElem?_eq_getElem hi]
    simp [enc8, List.getD, hi]) 9 Tryf.underlying9
  rw [this, e]
def zeros16 : Array Value := Array.replicate 16 (.int .u8 0)
theorem run_make16 (w : World) : (Instr.makeSlice 22 (.int .i64 0) (.int .i64 16)).run Tryf.prog w = .ok (.slice (some ⟨w.heap.size, 0, none⟩) 0 16) (w.alloc (.cells zeros16 5)) := by kernel_rfl
theorem own_made (w : World) : Own w.heap.size [] (w.alloc (.cells zeros16 5)) := World.ownsRow_made w _ 16 (Nat.le_refl _) (by decide) rfl
/-- The nibble i of the bytes x. -/
def nib (x : Nat → Nat) (i : Nat) : Nat := x (i / 2) / (if i % 2 = 0 then 1 else 16) % 16
structure Good (x : Nat → Nat) (m : Nat) : Prop where
  pos : 1 ≤ m
  le : m ≤ 16
  dig : ∀ i, i < m → nib x i ≤ 9
  fill : ∀ i, m ≤ i → i < 16 → nib x i = 15
def digs (x : Nat → Nat) (m : Nat) : List UInt8 := (List.range m).map fun i => UInt8.ofNat (48 + nib x i)
theorem digs_succ (x : Nat → Nat) (m : Nat) : digs x (m + 1) = digs x m ++ [UInt8.ofNat (48 + nib x m)] := by
  unfold digs; rw [List.range_succ, List.map_append]; rfl
theorem digs_len (x : Nat → Nat) (m : Nat) : (digs x m).length = m := by unfold digs; simp
theorem nib_lt (x : Nat → Nat) (i : Nat) : nib x i < 16 := Nat.mod_lt _ (by decide)
/-- What the parser has seen of the first i nibbles: j digits, then (fl) filler. -/
structure Seen (x : Nat → Nat) (i j : Nat) (fl : Bool) : Prop where
  le : j ≤ i
  same : fl = false → j = i
  dig : ∀ t, t < j → nib x t ≤ 9
  fill : ∀ t, j ≤ t → t < i → nib x t = 15
  some : fl = true → j < i
theorem Seen.digit {x : Nat → Nat} {i j : Nat} (h : Seen x i j false) (hn : nib x i ≤ 9) : Seen x (i + 1) (j + 1) false := by
  have e := h.same rfl
  subst e
  refine ⟨Nat.le_refl _, fun _ => rfl, fun t ht => ?_, fun t h1 h2 => by omega, fun h => by cases h⟩
  by_cases ht2 : t = j
  · subst ht2; exact hn
  · exact h.dig t (by omega)
theorem Seen.filler {x : Nat → Nat} {i j : Nat} {fl : Bool} (h : Seen x i j fl) (hn : nib x i = 15) : Seen x (i + 1) j true := by
  refine ⟨by have := h.le; omega, nofun, h.dig, fun t h1 h2 => ?_, fun _ => by have := h.le; omega⟩
  by_cases ht2 : t = i
  · subst ht2; exact hn
  · exact h.fill t h1 (by omega)
theorem Seen.good {x : Nat → Nat} {j : Nat} {fl : Bool} (h : Seen x 16 j fl) (hj : 1 ≤ j) : Good x j := ⟨hj, h.le, h.dig, h.fill⟩
/-- No well-formed value has a nibble between 10 and 14. -/
theorem bad_nib {x : Nat → Nat} {i : Nat} (hi : i < 16) (h1 : 9 < nib x i) (h2 : nib x i ≠ 15) : ¬ ∃ m, Good x m := by
  rintro ⟨m, g⟩
  by_cases h : i < m
  · have := g.dig i h; omega
  · exact h2 (g.fill i (by omega) hi)
theorem bad_after {x : Nat → Nat} {i j : Nat} (hi : i < 16) (h : Seen x i j true) (h1 : nib x i ≤ 9) : ¬ ∃ m, Good x m := by
  rintro ⟨m, g⟩
  have hj := h.some rfl
  have e := h.fill j (Nat.le_refl _) hj
  have hm : m ≤ j := by
    rcases Nat.lt_or_ge j m with h2 | h2
    · have := g.dig j h2; omega
    · exact h2
  have := g.fill i (by omega) hi
  omega
theorem bad_none {x : Nat → Nat} {fl : Bool} (h : Seen x 16 0 fl) : ¬ ∃ m, Good x m := by
  rintro ⟨m, g⟩
  have h1 := g.dig 0 (by have := g.pos; omega)
  have h2 := h.fill 0 (Nat.le_refl _) (by decide)
  omega
theorem good_unique {x : Nat → Nat} {m k : Nat} (h : Good x m) (g : Good x k) : m = k := by
  rcases Nat.lt_trichotomy m k with h1 | h1 | h1
  · have e1 := g.dig m h1
    have e2 := h.fill m (Nat.le_refl _) (by have := g.le; omega)
    omega
  · exact h1
  · have e1 := h.dig k h1
    have e2 := g.fill k (Nat.le_refl _) (by have := h.le; omega)
    omega
end Go.Proofs.Qxb6003907aFmt
