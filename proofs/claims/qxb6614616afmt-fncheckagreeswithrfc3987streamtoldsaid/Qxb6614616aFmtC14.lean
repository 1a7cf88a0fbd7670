/-
  The small functions of the road.
-/
import Derived.Test.Qxb6614616aFmtC12
namespace Go.Proofs.Qxb6614616aFmt
open Go.RowKit Go.Lib
set_option linter.unusedSimpArgs false
set_option maxRecDepth 100000 in
set_option maxHeartbeats 2000000 in
theorem new_any (a : Nat) (o : Bool) (w : World) (ht : Utf8Tabs 0 1 w) (h2 : 2 ≤ w.heap.size) :
    Calls Tryf.prog 6 #[.int .u8 a, .bool o] w fun e w' => e = .returned (.pointer (some ⟨w.heap.size, 0, none⟩)) ∧ Nrm w.heap.size a 0 (fun _ => 0) false false o ByteArray.empty w' ∧ Below w.heap.size w w' := by
  go_enter Tryf.func6, Tryf.ntmps6
  go_wp2
  go_ret
  refine ⟨rfl, ?_, (Below.refl _ _).alloc (Nat.le_refl _) _⟩
  refine ⟨h2, by simp, tabs_below h2 ((Below.refl _ _).alloc (Nat.le_refl _) _) ht, ?_, fun j hj => ?_, ?_, ?_, ⟨.nilIface, ?_, rfl⟩, ?_, ?_, fun i => World.frozen?_alloc_at _ _ _ _ rfl⟩
  all_goals rw [World.cell?_alloc_at _ _ _ _ rfl]
  case refine_2 => rcases (by omega : j = 0 ∨ j = 1 ∨ j = 2 ∨ j = 3) with rfl | rfl | rfl | rfl <;> rfl
  all_goals rfl
set_option maxRecDepth 100000 in
theorem zzcheck_any (B a : Nat) (S : St) (o : Bool) (q : ByteArray) (c : Nat) (w : World) (h : Nrm B a S.k S.p S.bad S.ref o q w) (hS : S.ok) (hq : o = true → q.size ≤ 2) (hc : c < 256) :
    Calls Tryf.prog 7 #[.pointer (some ⟨B, 0, none⟩), .int .u8 c] w fun e w' => e = .returned (.tuple #[]) ∧
      Nrm B a (S.step a c).k (S.step a c).p (S.step a c).bad (S.step a c).ref (oNext o q) (qNext o q c) w' ∧ Below B w w' := by
  have HC : Hid (Calls Tryf.prog 14 #[.pointer (some ⟨B, 0, none⟩), .int .u8 c] w fun e w' => e = .returned (.tuple #[]) ∧
      Nrm B a (S.step a c).k (S.step a c).p (S.step a c).bad (S.step a c).ref (oNext o q) (qNext o q c) w' ∧ Below B w w') := by
    unfold St.step
    by_cases h8 : c < 128
    · rw [if_pos h8]
      exact check_asc B a S.k S.p S.bad S.ref o q c w h hq (by omega)
    · rw [if_neg h8]
      obtain ⟨p0, p1, p2⟩ := hS.pre (c := c) (by omega) hc
      exact check_uni B a S.k S.p S.bad S.ref o q c w h (by have := hS.short; omega) hq (by omega) (by omega) hS.byte p0 p2
  generalize hQ : (fun (e : Ending) (w' : World) => e = .returned (.tuple #[]) ∧ Nrm B a (S.step a c).k (S.step a c).p (S.step a c).bad (S.step a c).ref (oNext o q) (qNext o q c) w' ∧ Below B w w') = Q at HC ⊢
  have HQ := hide hQ
  clear hQ h hS hq
  go_enter Tryf.func7, Tryf.ntmps7
  go_wp2_with fail
  refine (unhide HC).mono ?_
  intro e w' he
  rw [← HQ.out] at he
  obtain ⟨rfl, hn, hb⟩ := he
  have HN := hide hn
  have HB := hide hb
  clear hn hb
  go_wp2_with fail
  go_end0
  rw [← HQ.out]
  exact ⟨rfl, HN.out, HB.out⟩
set_option maxRecDepth 100000 in
theorem zzquote_any {B a k : Nat} {p : Nat → Nat} {bad ref o : Bool} {q : ByteArray} {w : World} (h : Nrm B a k p bad ref o q w) :
    Calls Tryf.prog 8 #[.pointer (some ⟨B, 0, none⟩)] w fun e w' => e = .returned (.tuple #[.string q, .bool o]) ∧ ∃ n, w' = w.drewN n := by
  have c24 := h.quote
  have c25 := h.open_
  clear h
  go_enter Tryf.func8, Tryf.ntmps8
  go_wp2_with fail
  go_quiet (fail)
  go_wp2_with fail
  go_ret2
  exact ⟨rfl, _, rfl⟩
set_option maxRecDepth 100000 in
theorem zzrefused_any {B a k : Nat} {p : Nat → Nat} {bad ref o : Bool} {q : ByteArray} {w : World} (h : Nrm B a k p bad ref o q w) :
    Calls Tryf.prog 11 #[.pointer (some ⟨B, 0, none⟩)] w fun e w' => e = .returned (.bool ref) ∧ w' = w := by
  obtain ⟨v, c23, hv⟩ := h.err
  clear h
  cases ref with
  | true =>
    obtain ⟨t, x, rfl⟩ : ∃ t x, v = .iface t x := hv
    go_enter Tryf.func11, Tryf.ntmps11
    go_wp2
    go_ret
    exact ⟨rfl, rfl⟩
  | false =>
    obtain rfl : v = .nilIface := hv
    go_enter Tryf.func11, Tryf.ntmps11
    go_wp2
    go_ret
    exact ⟨rfl, rfl⟩
set_option maxRecDepth 100000 in
theorem zzbad_any {B a k : Nat} {p : Nat → Nat} {bad ref o : Bool} {q : ByteArray} {w : World} (h : Nrm B a k p bad ref o q w) :
    Calls Tryf.prog 12 #[.pointer (some ⟨B, 0, none⟩)] w fun e w' => e = .returned (.bool bad) ∧ w' = w := by
  have c21 := h.bad_
  clear h
  go_enter Tryf.func12, Tryf.ntmps12
  go_wp2
  go_ret
  exact ⟨rfl, rfl⟩
set_option maxRecDepth 100000 in
theorem min3_any (n : Nat) (w : World) : Calls Tryf.prog 10 #[.int .i64 n] w fun e w' => e = .returned (.int .i64 (min n 3 : Nat)) ∧ w' = w := by
  by_cases h : n ≤ 3
  · rw [Nat.min_eq_left h]
    go_enter Tryf.func10, Tryf.ntmps10
    go_wp2
    go_ret
    exact ⟨rfl, rfl⟩
  · rw [Nat.min_eq_right (by omega)]
    go_enter Tryf.func10, Tryf.ntmps10
    go_wp2
    go_ret
    exact ⟨rfl, rfl⟩
set_option maxRecDepth 100000 in
theorem bytes_any (a : Nat) (o : Bool) (s : ByteArray) (w : World) (hs : (s.size : Int) ≤ 65536) : Calls Tryf.prog 5 #[.int .u8 a, .bool o, .string s] w fun e w' => e = .returned (.bool true) ∧ w' = w := by
  go_enter Tryf.func5, Tryf.ntmps5
  go_wp2
  all_goals first | (exfalso; omega) | (go_ret; exact ⟨rfl, rfl⟩)
end Go.Proofs.Qxb6614616aFmt
