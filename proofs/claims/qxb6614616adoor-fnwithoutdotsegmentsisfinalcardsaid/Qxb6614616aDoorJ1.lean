/-
  A row of bytes that a call owns: make, append, conversion.
-/
import Derived.Test.Qxb6614616aDoorD1
import Derived.Room.AppendFits
import Derived.ArgAppend
import Derived.Laws.OwnMore
import Derived.Laws.BytesArg
namespace Go.Proofs.Qxb6614616aDoor
open Go.RowKit
set_option linter.unusedSimpArgs false
def enc8 (b : UInt8) : Value := .int .u8 (b.toNat : Int)
structure OwnB (D cap n : Nat) (l : List UInt8) (w : World) : Prop where
  len : l.length = n
  row : w.ownsRow D 5 1 (.slice (some ⟨D, 0, none⟩) n cap) n (l.map enc8)
theorem info5 : (Tryd.prog.info? 5).map (fun i => (i.zero, i.size, i.bytes)) = some (some (.int .u8 0), 1, 1) := by kernel_rfl
theorem below_grown {D : Nat} {w wr : World} (hg : w.grownBy wr (some D)) (hD : D ≤ w.heap.size) : Below D w wr :=
  (Below.refl D w).grown hg hD (fun k hk => by cases hk; exact Nat.le_refl _)
theorem appS {ops : Array Oper} {rest : List Oper} {o : Oper} {a : Act} {Q : Exit → Act → World → Prop} (wr : World) (hg : o.guard = none) (s x : Operand)
    (hop : o.op = Op.call { callee := Callee.builtin Builtin.append, args := #[s, x], argTypes := #[28, 9] }) (D cap n : Nat) (l : List UInt8) (str : ByteArray)
    (hs : a.eval s = .slice (some ⟨D, 0, none⟩) n cap) (hx : a.eval x = .string str) (hown : OwnB D cap n l wr) (hcap : 0 < cap) (hroom : n + str.size ≤ cap)
    (hK : ∀ w1 n', OwnB D cap n' (l ++ L str) w1 → wr.grownBy w1 (some D) → wpList Tryd.prog ops Q rest (a.put o.dst (.slice (some ⟨D, 0, none⟩) n' cap)) w1) :
    wpList Tryd.prog ops Q (o :: rest) a wr := by
  obtain ⟨i0, hi, hz0, hz1, hz2⟩ := info_parts info5
  refine Lib.wpList_append_fits_string _ hg s x 28 9 hop D 5 i0 Tryd.underlying28 Tryd.underlying9 hi hz1 _ n cap _ hs hown.row str hx hcap hroom ?_
  intro w1 h1 h2
  refine hK w1 _ ⟨?_, ?_⟩ h2
  · rw [List.length_append, hown.len, L_len]
  · rw [List.map_append]; exact h1
theorem alloc_grown {wr w1 : World} {D : Nat} {o : Obj} (h2 : (wr.alloc o).grownBy w1 (some D)) : wr.grownBy w1 (some D) :=
  ⟨h2.os, h2.tape, h2.output, Nat.le_trans (by simp) h2.size, fun k hk hne => (h2.block k (by simp; omega) hne).trans (by
        show (wr.heap.push _)[k]? = _
        rw [Array.getElem?_push, if_neg (by omega)])⟩
theorem app1 {ops : Array Oper} {rest : List Oper} {o : Oper} {a : Act} {Q : Exit → Act → World → Prop} (wr : World) (hg : o.guard = none) (s x : Operand)
    (hop : o.op = Op.call { callee := Callee.builtin Builtin.append, args := #[s, x], argTypes := #[28, 28] }) (D cap n : Nat) (l : List UInt8) (news : List UInt8) (m : Nat) (cs : Array Value) (hcs : cs = (news.map enc8).toArray) (hm : news.length = m)
    (hs : a.eval s = .slice (some ⟨D, 0, none⟩) n cap) (hx : a.eval x = .slice (some ⟨wr.heap.size, 0, none⟩) m m) (hown : OwnB D cap n l wr) (hroom : n + m ≤ cap)
    (hK : ∀ w1 n', OwnB D cap n' (l ++ news) w1 → wr.grownBy w1 (some D) → wpList Tryd.prog ops Q rest (a.put o.dst (.slice (some ⟨D, 0, none⟩) n' cap)) w1) :
    wpList Tryd.prog ops Q (o :: rest) a (wr.alloc (.cells cs 5)) := by
  obtain ⟨i0, hi, hz0, hz1, hz2⟩ := info_parts info5
  subst hcs
  refine wpList_append_fits _ hg s x 28 hop D 5 i0 1 Tryd.underlying28 hi hz1 D n cap (l.map enc8) hs (hown.row.alloc _) ⟨wr.heap.size, 0, none⟩ m m (news.map enc8) hx (by simp [hm]) ?_ ?_ hroom ?_
  · intro j u hj
    have hplain : (⟨wr.heap.size, 0, none⟩ : Addr).add j = ⟨wr.heap.size, j, none⟩ := by unfold Addr.add; split <;> simp_all
    rw [hplain, World.cell?_alloc_at _ _ _ _ rfl]
    rw [← hj]
    simp
  · intro u hu
    obtain ⟨b, _, rfl⟩ := List.mem_map.1 hu
    rfl
  · intro w1 h1 h2
    refine hK w1 _ ⟨?_, ?_⟩ (alloc_grown h2)
    · rw [List.length_append, hown.len, hm]
    · rw [List.map_append]; exact h1
theorem toNat_byte (b : UInt8) : UInt8.ofNat ((b.toNat : Int).toNat) = b := by
  rw [Int.toNat_natCast, UInt8.ofNat_toNat]
theorem nums_str (l : List UInt8) : strOfNums (l.map fun b => (b.toNat : Int)) = ofL l := by
  unfold strOfNums
  rw [List.map_map]
  show _ = (⟨l.toArray⟩ : ByteArray)
  congr 2
  conv => rhs; rw [← List.map_id l]
  apply List.map_congr_left
  intro b _
  exact toNat_byte b
theorem conv_cells {D n cap : Nat} {l : List UInt8} {w : World} (hl : l.length = n) (h : ∀ i, i < n → w.cell? ⟨D, i, none⟩ = (l.map enc8)[i]?) : (convert 28 9 (.slice (some ⟨D, 0, none⟩) n cap)).run Tryd.prog w = .ok (.string (ofL l)) w := by
  have := run_convert_bytes_arg (P := Tryd.prog) w 28 5 Tryd.underlying28 Tryd.underlying5 D 0 n cap (l.map fun b => (b.toNat : Int)) (by simp [hl]) (fun i hi => by
    rw [Nat.zero_add, h i hi, List.getElem?_map, List.getElem?_eq_getElem (by omega)]
    simp [enc8, List.getD, hl, hi]) 9 Tryd.underlying9
  rw [this, nums_str]
theorem own_convert {D n cap : Nat} {l : List UInt8} {w : World} (h : OwnB D cap n l w) : (convert 28 9 (.slice (some ⟨D, 0, none⟩) n cap)).run Tryd.prog w = .ok (.string (ofL l)) w :=
  conv_cells h.len (fun i hi => World.ownsRow.cellAt h.row i (by omega))
theorem run_make (n m : Nat) (hn : n ≤ m) (hm : (m : Int) ≤ 4194304) (w : World) : ∃ Z : Array Value, Z.size = m ∧ (Instr.makeSlice 28 (.int .i64 n) (.int .i64 m)).run Tryd.prog w = .ok (.slice (some ⟨w.heap.size, 0, none⟩) n m) (w.alloc (.cells Z 5)) := by
  obtain ⟨i0, hi, hz0, hz1, hz2⟩ := info_parts info5
  have := run_makeSlice (P := Tryd.prog) w 28 5 i0 (.int .u8 0) Tryd.underlying28 hi hz0 .i64 .i64 n m (by omega) (by omega) (by rw [hz1]; omega) (by rw [hz2]; omega) (by omega)
  rw [hz1] at this
  simp only [Int.toNat_natCast, Nat.mul_one] at this
  exact ⟨_, by rw [size_madeCells], this⟩
def joinL (sc au pa qu fr : List UInt8) (b1 b2 b3 b4 : Bool) : List UInt8 :=
  (if b1 then sc ++ [58] else []) ++ (if b2 then [47, 47] ++ au else []) ++ pa ++ (if b3 then [63] ++ qu else []) ++ (if b4 then [35] ++ fr else [])
end Go.Proofs.Qxb6614616aDoor
