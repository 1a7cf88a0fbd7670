/-
  The reader's state, and what a store does to it; DecodeRune on the raw bytes.
-/
import Derived.Test.Qxb6614616aFmtC8
import Derived.Laws.BytesArg
import Derived.Deep.RegionHeld3
namespace Go.Proofs.Qxb6614616aFmt
open Go.RowKit Go.Lib
set_option linter.unusedSimpArgs false
theorem wp_gen {P : Program} {c : Code} {K : Exit → Act → World → Prop} {a : Act} {W : World} (R : World → Prop) (h1 : R W) (h2 : ∀ w', R w' → Code.wp P c K a w') : Code.wp P c K a W := h2 W h1
theorem calls_gen {P : Program} {f : Nat} {args : Array Value} {W : World} {Q : Ending → World → Prop} (R : World → Prop) (h1 : R W) (h2 : ∀ w', R w' → Calls P f args w' Q) : Calls P f args W Q := h2 W h1
/-- A normal whose reading state is this. -/
structure Nrm (B a k : Nat) (p : Nat → Nat) (bad ref o : Bool) (q : ByteArray) (w : World) : Prop where
  two : 2 ≤ B
  size : B < w.heap.size
  tabs : Utf8Tabs 0 1 w
  at_ : w.cell? ⟨B, 0, none⟩ = some (.int .u8 a)
  raw : ∀ j, j < 4 → w.cell? ⟨B, 16 + j, none⟩ = some (.int .u8 (p j))
  len : w.cell? ⟨B, 20, none⟩ = some (.int .i64 k)
  bad_ : w.cell? ⟨B, 21, none⟩ = some (.bool bad)
  err : ∃ v, w.cell? ⟨B, 23, none⟩ = some v ∧ errV ref v
  quote : w.cell? ⟨B, 24, none⟩ = some (.string q)
  open_ : w.cell? ⟨B, 25, none⟩ = some (.bool o)
  free : ∀ i, w.frozen? ⟨B, i, none⟩ = false
def setP (p : Nat → Nat) (k c : Nat) : Nat → Nat := fun j => if j = k then c else p j
structure Upd (B i : Nat) (v : Value) (w w' : World) : Prop where
  cell : ∀ o, w'.cell? ⟨B, o, none⟩ = if o = i then some v else w.cell? ⟨B, o, none⟩
  free : ∀ o, w'.frozen? ⟨B, o, none⟩ = w.frozen? ⟨B, o, none⟩
  below : Below B w w'
theorem Upd.set {B i : Nat} {u : Value} {w : World} (hc : w.cell? ⟨B, i, none⟩ = some u) (v : Value) : Upd B i v w (w.setCell ⟨B, i, none⟩ v) :=
  ⟨set_cell w B i v u hc, fun _ => World.frozen?_setCell _ _ _ _, (Below.refl B w).setCell (p := ⟨B, i, none⟩) (Nat.le_refl B) v⟩
theorem tabs_below {B : Nat} {w w' : World} (hB : 2 ≤ B) (h : Below B w w') (t : Utf8Tabs 0 1 w) : Utf8Tabs 0 1 w' :=
  ⟨fun c hc => (h.cell (p := ⟨0, c, none⟩) (show 0 < B by omega)).trans (t.1 c hc),
   fun i hi => ⟨(h.cell (p := ⟨1, 2 * i, none⟩) (show 1 < B by omega)).trans (t.2 i hi).1, (h.cell (p := ⟨1, 2 * i + 1, none⟩) (show 1 < B by omega)).trans (t.2 i hi).2⟩⟩
section
variable {B a k : Nat} {p : Nat → Nat} {bad ref o : Bool} {q : ByteArray} {w w' : World}
theorem Upd.other {i : Nat} {v x : Value} (u : Upd B i v w w') {t : Nat} (ht : t ≠ i) (h : w.cell? ⟨B, t, none⟩ = some x) : w'.cell? ⟨B, t, none⟩ = some x := by
  rw [u.cell, if_neg ht]; exact h
theorem Upd.here {i : Nat} {v : Value} (u : Upd B i v w w') : w'.cell? ⟨B, i, none⟩ = some v := by
  rw [u.cell, if_pos rfl]
theorem Nrm.below (h : Nrm B a k p bad ref o q w) {n : Nat} (hb : Below n w w') (hn : B < n) : Nrm B a k p bad ref o q w' := by
  obtain ⟨k1, k2⟩ := below_cells hb hn
  obtain ⟨v, hv, he⟩ := h.err
  exact ⟨h.two, Nat.lt_of_lt_of_le h.size hb.size, tabs_below h.two (hb.mono (Nat.le_of_lt hn)) h.tabs, (k1 _).trans h.at_, fun j hj => (k1 _).trans (h.raw j hj), (k1 _).trans h.len, (k1 _).trans h.bad_, ⟨v, (k1 _).trans hv, he⟩, (k1 _).trans h.quote, (k1 _).trans h.open_, fun i => (k2 i).trans (h.free i)⟩
theorem Nrm.setRaw (h : Nrm B a k p bad ref o q w) {c i : Nat} (hi : i < 4) (u : Upd B (16 + i) (.int .u8 c) w w') : Nrm B a k (setP p i c) bad ref o q w' := by
  obtain ⟨v, hv, he⟩ := h.err
  refine ⟨h.two, Nat.lt_of_lt_of_le h.size u.below.size, tabs_below h.two u.below h.tabs, u.other (by omega) h.at_, fun j hj => ?_, u.other (by omega) h.len, u.other (by omega) h.bad_, ⟨v, u.other (by omega) hv, he⟩, u.other (by omega) h.quote, u.other (by omega) h.open_, fun i => (u.free i).trans (h.free i)⟩
  by_cases e : j = i
  · subst e; unfold setP; rw [if_pos rfl]; exact u.here
  · unfold setP; rw [if_neg e]; exact u.other (by omega) (h.raw j hj)
theorem Nrm.setLen (h : Nrm B a k p bad ref o q w) {n : Nat} (u : Upd B 20 (.int .i64 n) w w') : Nrm B a n p bad ref o q w' := by
  obtain ⟨v, hv, he⟩ := h.err
  exact ⟨h.two, Nat.lt_of_lt_of_le h.size u.below.size, tabs_below h.two u.below h.tabs, u.other (by omega) h.at_, fun j hj => u.other (by omega) (h.raw j hj), u.here, u.other (by omega) h.bad_, ⟨v, u.other (by omega) hv, he⟩, u.other (by omega) h.quote, u.other (by omega) h.open_, fun i => (u.free i).trans (h.free i)⟩
theorem Nrm.setBad (h : Nrm B a k p bad ref o q w) {b : Bool} (u : Upd B 21 (.bool b) w w') : Nrm B a k p b ref o q w' := by
  obtain ⟨v, hv, he⟩ := h.err
  exact ⟨h.two, Nat.lt_of_lt_of_le h.size u.below.size, tabs_below h.two u.below h.tabs, u.other (by omega) h.at_, fun j hj => u.other (by omega) (h.raw j hj), u.other (by omega) h.len, u.here, ⟨v, u.other (by omega) hv, he⟩, u.other (by omega) h.quote, u.other (by omega) h.open_, fun i => (u.free i).trans (h.free i)⟩
theorem Nrm.setQuote (h : Nrm B a k p bad ref o q w) {q' : ByteArray} (u : Upd B 24 (.string q') w w') : Nrm B a k p bad ref o q' w' := by
  obtain ⟨v, hv, he⟩ := h.err
  exact ⟨h.two, Nat.lt_of_lt_of_le h.size u.below.size, tabs_below h.two u.below h.tabs, u.other (by omega) h.at_, fun j hj => u.other (by omega) (h.raw j hj), u.other (by omega) h.len, u.other (by omega) h.bad_, ⟨v, u.other (by omega) hv, he⟩, u.here, u.other (by omega) h.open_, fun i => (u.free i).trans (h.free i)⟩
theorem Nrm.setOpen (h : Nrm B a k p bad ref o q w) {o' : Bool} (u : Upd B 25 (.bool o') w w') : Nrm B a k p bad ref o' q w' := by
  obtain ⟨v, hv, he⟩ := h.err
  exact ⟨h.two, Nat.lt_of_lt_of_le h.size u.below.size, tabs_below h.two u.below h.tabs, u.other (by omega) h.at_, fun j hj => u.other (by omega) (h.raw j hj), u.other (by omega) h.len, u.other (by omega) h.bad_, ⟨v, u.other (by omega) hv, he⟩, u.other (by omega) h.quote, u.here, fun i => (u.free i).trans (h.free i)⟩
theorem Nrm.refused (h : Nrm B a k p bad ref o q w) (u : Refused B w w') : Nrm B a k p bad true o q w' := by
  have g : ∀ {t : Nat} {x : Value}, t ≠ 23 → w.cell? ⟨B, t, none⟩ = some x → w'.cell? ⟨B, t, none⟩ = some x := fun ht hx => (u.cell _ ht).trans hx
  obtain ⟨t, x, hx⟩ := u.err
  exact ⟨h.two, Nat.lt_of_lt_of_le h.size u.below.size, tabs_below h.two u.below h.tabs, g (by omega) h.at_, fun j hj => g (by omega) (h.raw j hj), g (by omega) h.len, g (by omega) h.bad_, ⟨_, hx, ⟨t, x, rfl⟩⟩, g (by omega) h.quote, g (by omega) h.open_, fun i => (u.free i).trans (h.free i)⟩
end
def one (c : Nat) : ByteArray := ⟨#[UInt8.ofNat c]⟩
theorem conv1 (w : World) (c : Nat) : (convert 35 9 (.slice (some ⟨w.heap.size, 0, none⟩) 1 1)).run Tryf.prog (w.alloc (.cells #[.int .u8 c] 5)).drew = .ok (.string (one c)) (w.alloc (.cells #[.int .u8 c] 5)).drew := by
  have := run_convert_bytes_arg (P := Tryf.prog) (w.alloc (.cells #[.int .u8 c] 5)).drew 35 5 Tryf.underlying35 Tryf.underlying5 w.heap.size 0 1 1 [(c : Int)] rfl (fun i hi => by
    obtain rfl : i = 0 := by omega
    rw [World.cell?_drew, World.cell?_alloc_at _ _ _ _ rfl]; rfl) 9 Tryf.underlying9
  rw [this]
  have : strOfNums [(c : Int)] = one c := by
    unfold strOfNums one
    simp
  rw [this]
theorem decode_any (n b0 b1 b2 b3 cap B : Nat) (w : World) (hT : Utf8Tabs 0 1 w) (hn : 1 ≤ n) (hn4 : n ≤ 4) (l0 : b0 < 256) (l1 : b1 < 256) (l2 : b2 < 256) (l3 : b3 < 256)
    (c0 : w.cell? ⟨B, 16, none⟩ = some (.int .u8 b0)) (c1 : w.cell? ⟨B, 17, none⟩ = some (.int .u8 b1)) (c2 : w.cell? ⟨B, 18, none⟩ = some (.int .u8 b2)) (c3 : w.cell? ⟨B, 19, none⟩ = some (.int .u8 b3)) :
    Calls Tryf.prog 23 #[.slice (some ⟨B, 16, none⟩) n cap] w fun e w' => e = .returned (.tuple #[.int .i32 (decodeN n b0 b1 b2 b3).1, .int .i64 (decodeN n b0 b1 b2 b3).2]) ∧ Below w.heap.size w w' := by
  have tb : ∀ b : Nat, b < 256 → ((UInt8.ofNat b).toNat) = b := fun b hb => by simp; omega
  rcases (by omega : n = 1 ∨ n = 2 ∨ n = 3 ∨ n = 4) with rfl | rfl | rfl | rfl
  · have := Tryf.utf8_DecodeRune ⟨#[UInt8.ofNat b0]⟩ B 16 cap w hT (fun j hj => by
      obtain rfl : j = 0 := by have : j < 1 := hj; omega
      show _ = some (Value.int .u8 ((UInt8.ofNat b0).toNat : Nat)); rw [tb b0 l0]; exact c0)
    have e : Lib.decodeGo ⟨#[UInt8.ofNat b0]⟩ = decodeN 1 b0 b1 b2 b3 := by
      unfold Lib.decodeGo
      rw [if_neg (by simp [ByteArray.size]), decode_at]
      show decodeN 1 (UInt8.ofNat b0).toNat _ _ _ = _
      rw [tb b0 l0]
      unfold decodeN
      simp
    rw [e] at this
    exact this
  · have := Tryf.utf8_DecodeRune ⟨#[UInt8.ofNat b0, UInt8.ofNat b1]⟩ B 16 cap w hT (fun j hj => by
      rcases (by have : j < 2 := hj; omega : j = 0 ∨ j = 1) with rfl | rfl
      · show _ = some (Value.int .u8 ((UInt8.ofNat b0).toNat : Nat)); rw [tb b0 l0]; exact c0
      · show _ = some (Value.int .u8 ((UInt8.ofNat b1).toNat : Nat)); rw [tb b1 l1]; exact c1)
    have e : Lib.decodeGo ⟨#[UInt8.ofNat b0, UInt8.ofNat b1]⟩ = decodeN 2 b0 b1 b2 b3 := by
      unfold Lib.decodeGo
      rw [if_neg (by simp [ByteArray.size]), decode_at]
      show decodeN 2 (UInt8.ofNat b0).toNat (UInt8.ofNat b1).toNat _ _ = _
      rw [tb b0 l0, tb b1 l1]
      unfold decodeN
      simp
    rw [e] at this
    exact this
  · have := Tryf.utf8_DecodeRune ⟨#[UInt8.ofNat b0, UInt8.ofNat b1, UInt8.ofNat b2]⟩ B 16 cap w hT (fun j hj => by
      rcases (by have : j < 3 := hj; omega : j = 0 ∨ j = 1 ∨ j = 2) with rfl | rfl | rfl
      · show _ = some (Value.int .u8 ((UInt8.ofNat b0).toNat : Nat)); rw [tb b0 l0]; exact c0
      · show _ = some (Value.int .u8 ((UInt8.ofNat b1).toNat : Nat)); rw [tb b1 l1]; exact c1
      · show _ = some (Value.int .u8 ((UInt8.ofNat b2).toNat : Nat)); rw [tb b2 l2]; exact c2)
    have e : Lib.decodeGo ⟨#[UInt8.ofNat b0, UInt8.ofNat b1, UInt8.ofNat b2]⟩ = decodeN 3 b0 b1 b2 b3 := by
      unfold Lib.decodeGo
      rw [if_neg (by simp [ByteArray.size]), decode_at]
      show decodeN 3 (UInt8.ofNat b0).toNat (UInt8.ofNat b1).toNat (UInt8.ofNat b2).toNat _ = _
      rw [tb b0 l0, tb b1 l1, tb b2 l2]
      unfold decodeN
      simp
    rw [e] at this
    exact this
  · have := Tryf.utf8_DecodeRune ⟨#[UInt8.ofNat b0, UInt8.ofNat b1, UInt8.ofNat b2, UInt8.ofNat b3]⟩ B 16 cap w hT (fun j hj => by
      rcases (by have : j < 4 := hj; omega : j = 0 ∨ j = 1 ∨ j = 2 ∨ j = 3) with rfl | rfl | rfl | rfl
      · show _ = some (Value.int .u8 ((UInt8.ofNat b0).toNat : Nat)); rw [tb b0 l0]; exact c0
      · show _ = some (Value.int .u8 ((UInt8.ofNat b1).toNat : Nat)); rw [tb b1 l1]; exact c1
      · show _ = some (Value.int .u8 ((UInt8.ofNat b2).toNat : Nat)); rw [tb b2 l2]; exact c2
      · show _ = some (Value.int .u8 ((UInt8.ofNat b3).toNat : Nat)); rw [tb b3 l3]; exact c3)
    have e : Lib.decodeGo ⟨#[UInt8.ofNat b0, UInt8.ofNat b1, UInt8.ofNat b2, UInt8.ofNat b3]⟩ = decodeN 4 b0 b1 b2 b3 := by
      unfold Lib.decodeGo
      rw [if_neg (by simp [ByteArray.size]), decode_at]
      show decodeN 4 (UInt8.ofNat b0).toNat (UInt8.ofNat b1).toNat (UInt8.ofNat b2).toNat (UInt8.ofNat b3).toNat = _
      rw [tb b0 l0, tb b1 l1, tb b2 l2, tb b3 l3]
    rw [e] at this
    exact this
end Go.Proofs.Qxb6614616aFmt
