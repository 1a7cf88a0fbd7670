/-
  The chain of pieces: length, extend, pop, push.
-/
import Derived.Test.Qxb6614616aDoorD2
import Derived.Deep.RegionHeld3
namespace Go.Proofs.Qxb6614616aDoor
open Go.RowKit
set_option linter.unusedSimpArgs false
theorem wp_gen {P : Program} {c : Code} {K : Exit → Act → World → Prop} {a : Act} {W : World} (R : World → Prop) (h1 : R W) (h2 : ∀ w', R w' → Code.wp P c K a w') : Code.wp P c K a W := h2 W h1
def Chain (D : Nat) (W : World) : List (List UInt8) → Option Addr → Prop
  | [], p => p = none
  | t :: ts, p => ∃ b q, p = some ⟨b, 0, none⟩ ∧ D < b ∧ b < W.heap.size ∧ W.cell? ⟨b, 0, none⟩ = some (.pointer q) ∧ W.cell? ⟨b, 1, none⟩ = some (.string (ofL t)) ∧ W.cell? ⟨b, 2, none⟩ = some (.int .i64 (flat (t :: ts)).length) ∧ Chain D W ts q
theorem Chain.keep {D : Nat} {W W' : World} (hk : ∀ b o, D < b → b < W.heap.size → W'.cell? ⟨b, o, none⟩ = W.cell? ⟨b, o, none⟩) (hs : W.heap.size ≤ W'.heap.size) : ∀ (ts : List (List UInt8)) (p : Option Addr), Chain D W ts p → Chain D W' ts p
  | [], _, h => h
  | _ :: ts, _, ⟨b, q, e, h1, h2, c0, c1, c2, hr⟩ => ⟨b, q, e, h1, Nat.lt_of_lt_of_le h2 hs, (hk b 0 h1 h2).trans c0, (hk b 1 h1 h2).trans c1, (hk b 2 h1 h2).trans c2, Chain.keep hk hs ts q hr⟩
structure Rem (D : Nat) (ts : List (List UInt8)) (w : World) : Prop where
  size : D < w.heap.size
  cells : ∃ p e, w.cell? ⟨D, 0, none⟩ = some (.pointer p) ∧ w.cell? ⟨D, 1, none⟩ = some (.pointer none) ∧ w.cell? ⟨D, 2, none⟩ = some (.bool e) ∧ Chain D w ts p
  free : ∀ i, w.frozen? ⟨D, i, none⟩ = false
theorem len39 (D : Nat) (ts : List (List UInt8)) (p : Option Addr) (w : World) (h : Chain D w ts p) : Calls Tryd.prog 39 #[.pointer p] w fun e w' => e = .returned (.int .i64 (flat ts).length) ∧ w' = w := by
  cases ts with
  | nil =>
    obtain rfl : p = none := h
    go_enter Tryd.func39, Tryd.ntmps39
    go_wp2
    go_ret
    exact ⟨rfl, rfl⟩
  | cons t ts =>
    obtain ⟨b, q, rfl, h1, h2, c0, c1, c2, hr⟩ := h
    generalize (flat (t :: ts)).length = n at c2 ⊢
    go_enter Tryd.func39, Tryd.ntmps39
    go_wp2
    go_ret
    exact ⟨rfl, rfl⟩
theorem ext38 (D : Nat) (t : List UInt8) (ts : List (List UInt8)) (p : Option Addr) (w : World) (h : Chain D w ts p) (hb : (flat ts).length + t.length ≤ 1048576) :
    Calls Tryd.prog 38 #[.pointer p, .string (ofL t)] w fun e w' => e = .returned (.pointer (some ⟨w.heap.size, 0, none⟩)) ∧ w' = w.alloc (.cells #[.pointer p, .string (ofL t), .int .i64 ((flat ts).length + t.length : Nat)] 58) := by
  have HL := hide (len39 D ts p w h)
  have hsz := size_ofL t
  generalize (flat ts).length = n at HL hb ⊢
  generalize ofL t = tb at hsz ⊢
  have hbI : (n : Int) + (tb.size : Int) ≤ 1048576 := by omega
  rw [← hsz]
  clear h hb hsz
  go_enter Tryd.func38, Tryd.ntmps38
  go_wp2_with fail
  refine (unhide HL).mono ?_
  rintro e w' ⟨rfl, rfl⟩
  go_wp2_with fail
  go_ret
  exact ⟨rfl, rfl⟩
theorem below_dr {B : Nat} {a w : World} (h : Below B a w) (n : Nat) : Below B a (w.drewN n) := h.trans ⟨rfl, rfl, rfl, Nat.le_refl _, fun _ _ => rfl⟩
theorem Chain.drewN {D : Nat} {ts : List (List UInt8)} {p : Option Addr} {w : World} (h : Chain D w ts p) (n : Nat) : Chain D (w.drewN n) ts p :=
  Chain.keep (W := w) (W' := w.drewN n) (fun _ _ _ _ => rfl) (Nat.le_refl _) ts p h
theorem Rem.drewN {D : Nat} {ts : List (List UInt8)} {w : World} (h : Rem D ts w) (n : Nat) : Rem D ts (w.drewN n) := by
  obtain ⟨hD, ⟨p, e, c0, c1, c2, hc⟩, hf⟩ := h
  exact ⟨hD, ⟨p, e, c0, c1, c2, hc.drewN n⟩, hf⟩
theorem set_other (w : World) (D b i o : Nat) (v : Value) (h : D < b) : (w.setCell ⟨D, i, none⟩ v).cell? ⟨b, o, none⟩ = w.cell? ⟨b, o, none⟩ :=
  World.cell?_setCell_other _ _ _ _ (fun e => by have := (Addr.mk.inj e).1; omega)
theorem set_cell (w : World) (b i : Nat) (v u : Value) (h : w.cell? ⟨b, i, none⟩ = some u) (t : Nat) : (w.setCell ⟨b, i, none⟩ v).cell? ⟨b, t, none⟩ = if t = i then some v else w.cell? ⟨b, t, none⟩ := by
  by_cases e : t = i
  · subst e
    rw [if_pos rfl]
    exact World.cell?_setCell_same w _ v h
  · rw [if_neg e]
    exact World.cell?_setCell_other _ _ _ _ (fun h => e (Addr.mk.inj h).2.1.symm)
theorem Rem.setKept {D : Nat} {ts us : List (List UInt8)} {w : World} (h : Rem D ts w) (q : Option Addr) (hq : Chain D w us q) : Rem D us (w.setCell ⟨D, 0, none⟩ (.pointer q)) := by
  obtain ⟨hD, ⟨p, e, c0, c1, c2, hc⟩, hf⟩ := h
  refine ⟨by simpa using hD, ⟨q, e, ?_, ?_, ?_, Chain.keep (fun b o hb _ => set_other w D b 0 o _ hb) (by simp) us q hq⟩, fun i => by rw [World.frozen?_setCell]; exact hf i⟩
  · rw [set_cell _ _ _ _ _ c0, if_pos rfl]
  · rw [set_cell _ _ _ _ _ c0, if_neg (by decide)]; exact c1
  · rw [set_cell _ _ _ _ _ c0, if_neg (by decide)]; exact c2
theorem Rem.setEmpty {D : Nat} {ts : List (List UInt8)} {w : World} (h : Rem D ts w) (b : Bool) : Rem D ts (w.setCell ⟨D, 2, none⟩ (.bool b)) := by
  obtain ⟨hD, ⟨p, e, c0, c1, c2, hc⟩, hf⟩ := h
  refine ⟨by simpa using hD, ⟨p, b, ?_, ?_, ?_, Chain.keep (fun b o hb _ => set_other w D b 2 o _ hb) (by simp) ts p hc⟩, fun i => by rw [World.frozen?_setCell]; exact hf i⟩
  · rw [set_cell _ _ _ _ _ c2, if_neg (by decide)]; exact c0
  · rw [set_cell _ _ _ _ _ c2, if_neg (by decide)]; exact c1
  · rw [set_cell _ _ _ _ _ c2, if_pos rfl]
theorem Rem.alloc {D : Nat} {ts : List (List UInt8)} {w : World} (h : Rem D ts w) (o : Obj) : Rem D ts (w.alloc o) := by
  obtain ⟨hD, ⟨p, e, c0, c1, c2, hc⟩, hf⟩ := h
  have k : ∀ i, (w.alloc o).cell? ⟨D, i, none⟩ = w.cell? ⟨D, i, none⟩ := fun i => World.cell?_alloc_past o D i hD
  exact ⟨by simp; omega, ⟨p, e, (k 0).trans c0, (k 1).trans c1, (k 2).trans c2, Chain.keep (fun b o' _ hb => World.cell?_alloc_past o b o' hb) (by simp) ts p hc⟩, fun i => (World.frozen?_alloc_past o D i hD).trans (hf i)⟩
theorem pop29 (D : Nat) (ts : List (List UInt8)) (w : World) (h : Rem D ts w) : Calls Tryd.prog 29 #[.pointer (some ⟨D, 0, none⟩)] w fun e w' => e = .returned (.tuple #[]) ∧ Rem D ts.tail w' ∧ Below D w w' := by
  generalize hQ : (fun (e : Ending) (w' : World) => e = .returned (.tuple #[]) ∧ Rem D ts.tail w' ∧ Below D w w') = Q
  have HQ := hide hQ
  have HRem := hide h
  obtain ⟨hD, ⟨p, e, c0, c1, c2, hc⟩, hf⟩ := h
  have hf0 := hf 0
  clear hf hQ
  cases ts with
  | nil =>
    obtain rfl : p = none := hc
    go_enter Tryd.func29, Tryd.ntmps29
    go_wp2_with fail
    go_quiet (fail)
    go_wp2_with fail
    try go_end0
    rw [← HQ.out]
    exact ⟨rfl, HRem.out.drewN _, below_dr (Below.refl _ _) _⟩
  | cons t ts =>
    obtain ⟨b, q, rfl, h1, h2, p0, p1, p2, hr⟩ := hc
    have HC := hide hr
    clear hr
    go_enter Tryd.func29, Tryd.ntmps29
    go_wp2_with fail
    go_quiet (fail)
    go_wp2_with fail
    try go_end0
    rw [← HQ.out]
    refine ⟨rfl, (HRem.out.drewN _).setKept q (HC.out.drewN _), ?_⟩
    exact (below_dr (Below.refl _ _) _).setCell (p := ⟨D, 0, none⟩) (Nat.le_refl _) _
theorem Rem.pushed {D : Nat} {ts : List (List UInt8)} {w : World} {p : Option Addr} (h : Rem D ts w) (hp : Chain D w ts p) (t : List UInt8) :
    Rem D (t :: ts) ((w.alloc (.cells #[.pointer p, .string (ofL t), .int .i64 ((flat ts).length + t.length : Nat)] 58)).setCell ⟨D, 0, none⟩ (.pointer (some ⟨w.heap.size, 0, none⟩))) := by
  refine (h.alloc _).setKept _ ?_
  refine ⟨w.heap.size, p, rfl, h.size, by simp, ?_, ?_, ?_, Chain.keep (fun b o' _ hb => World.cell?_alloc_past _ b o' hb) (by simp) ts p hp⟩
  · rw [World.cell?_alloc_at _ _ _ _ rfl]; rfl
  · rw [World.cell?_alloc_at _ _ _ _ rfl]; rfl
  · rw [World.cell?_alloc_at _ _ _ _ rfl, flat, List.length_append]; rfl
theorem calls_gen {P : Program} {f : Nat} {args : Array Value} {W : World} {Q : Ending → World → Prop} (R : World → Prop) (h1 : R W) (h2 : ∀ w', R w' → Calls P f args w' Q) : Calls P f args W Q := h2 W h1
theorem push30 (D : Nat) (t : List UInt8) (ts : List (List UInt8)) (w : World) (h : Rem D ts w) (hb : (flat ts).length + t.length ≤ 1048576) : Calls Tryd.prog 30 #[.pointer (some ⟨D, 0, none⟩), .string (ofL t)] w fun e w' => e = .returned (.tuple #[]) ∧ Rem D (t :: ts) w' ∧ Below D w w' := by
  generalize hQ : (fun (e : Ending) (w' : World) => e = .returned (.tuple #[]) ∧ Rem D (t :: ts) w' ∧ Below D w w') = Q
  have HQ := hide hQ
  have HRem := hide h
  have hE : ∀ W p, Rem D ts W → Below D w W → W.cell? ⟨D, 0, none⟩ = some (.pointer p) → Calls Tryd.prog 38 #[.pointer p, .string (ofL t)] W fun e w' => ∃ x, e = .returned (.pointer x) ∧ (∃ q, w'.cell? ⟨D, 0, none⟩ = some (.pointer q)) ∧ w'.frozen? ⟨D, 0, none⟩ = false ∧ Hid (Rem D (t :: ts) (w'.setCell ⟨D, 0, none⟩ (.pointer x))) ∧ Hid (Below D w w') := fun W p hR hB hp => by
    have hC : Chain D W ts p := by
      obtain ⟨_, ⟨p', e, c0, c1, c2, hc⟩, hf⟩ := hR
      rw [hp] at c0
      cases c0
      exact hc
    refine (ext38 D t ts p W hC hb).mono ?_
    rintro e w' ⟨rfl, rfl⟩
    have hA := hR.alloc (.cells #[.pointer p, .string (ofL t), .int .i64 ((flat ts).length + t.length : Nat)] 58)
    obtain ⟨_, ⟨p', e, c0, c1, c2, hc⟩, hf⟩ := hA
    exact ⟨_, rfl, ⟨p', c0⟩, hf 0, hide (hR.pushed hC t), hide (hB.trans ((Below.refl _ _).alloc (Nat.le_of_lt hR.size) _))⟩
  have HE := hide hE
  obtain ⟨hD, ⟨p, e, c0, c1, c2, hc⟩, hf⟩ := h
  have hf0 := hf 0
  have hf2 := hf 2
  clear hf hQ hE hb
  generalize ofL t = tb at HE ⊢
  cases ts with
  | nil =>
    obtain rfl : p = none := hc
    go_enter Tryd.func30, Tryd.ntmps30
    go_wp2_with fail
    go_quiet (fail)
    go_wp2_with fail
    refine calls_gen (fun W => (Rem D [] W ∧ Below D w W) ∧ W.cell? ⟨D, 0, none⟩ = some (.pointer none)) ⟨⟨(HRem.out.drewN _).setEmpty _, (below_dr (Below.refl _ _) _).setCell (p := ⟨D, 2, none⟩) (Nat.le_refl _) _⟩, ?_⟩ ?_
    · rw [set_cell (w.drewN _) _ _ _ (.bool e) c2, if_neg (by decide)]; exact c0
    rintro W2 ⟨⟨hR2, hB2⟩, hp2⟩
    refine (unhide HE W2 none hR2 hB2 hp2).mono ?_
    rintro e w3 ⟨x, rfl, ⟨q, k0⟩, kf, HR3, HB3⟩
    clear HE c0 c1 c2 hf0 hf2 hR2 hB2 hp2
    go_wp2_with fail
    try go_end0
    rw [← HQ.out]
    exact ⟨rfl, HR3.out, HB3.out.setCell (p := ⟨D, 0, none⟩) (Nat.le_refl _) _⟩
  | cons t' ts =>
    obtain ⟨b, q, rfl, h1, h2, p0, p1, p2, hr⟩ := hc
    clear hr
    go_enter Tryd.func30, Tryd.ntmps30
    go_wp2_with fail
    go_quiet (fail)
    go_wp2_with fail
    refine calls_gen (fun W => (Rem D (t' :: ts) W ∧ Below D w W) ∧ W.cell? ⟨D, 0, none⟩ = some (.pointer (some ⟨b, 0, none⟩))) ⟨⟨HRem.out.drewN _, below_dr (Below.refl _ _) _⟩, c0⟩ ?_
    rintro W2 ⟨⟨hR2, hB2⟩, hp2⟩
    refine (unhide HE W2 _ hR2 hB2 hp2).mono ?_
    rintro e w3 ⟨x, rfl, ⟨q, k0⟩, kf, HR3, HB3⟩
    clear HE c0 c1 c2 hf0 hf2 hR2 hB2 hp2
    go_wp2_with fail
    try go_end0
    rw [← HQ.out]
    exact ⟨rfl, HR3.out, HB3.out.setCell (p := ⟨D, 0, none⟩) (Nat.le_refl _) _⟩
end Go.Proofs.Qxb6614616aDoor
