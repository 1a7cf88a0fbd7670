/-
  strings.SplitSeq's iterator, walked (it keeps what is left in a variable that it has captured).
-/
import Derived.RangeFuncNested
import Derived.RangeFuncBound
import Derived.RangeFuncCalls
import Derived.RangeFuncLeaves
import Derived.Shelf.Abstract
import Derived.Shelf.RegionOpen
import Derived.WalkKit
import Derived.OwnWalkIn
import Derived.TacticsInMore
import Derived.LoopNIn
import Derived.LoopIn
import Derived.Test.Qxb6614616aDoorD4
namespace Go.Proofs.Qxb6614616aDoor
open Go.RowKit Go.Shelf
attribute [local go_sem] Oper.semAt_some
set_option linter.unusedSimpArgs false
theorem seq19 (s : ByteArray) (w : World) : Calls Tryd.prog 19 #[.string s, .string ⟨#[47]⟩] w fun e w' => e = .returned (.func (.func 33) #[] #[.pointer (some ⟨w.heap.size + 1, 0, none⟩), .pointer (some ⟨w.heap.size, 0, none⟩), .pointer (some ⟨w.heap.size + 1 + 1, 0, none⟩)]) ∧ w' = ((w.alloc (.cells #[.string s] 9)).alloc (.cells #[.string ⟨#[47]⟩] 9)).alloc (.cells #[.int .i64 0] 3) := by
  go_enter Tryd.func19, Tryd.ntmps19
  go_wp2
  go_ret
  exact ⟨rfl, rfl⟩
def leftAt (S : Nat) (W : World) : Nat := match W.cell? ⟨S, 0, none⟩ with
  | some (.string q) => q.size
  | _ => 0
structure Boxes (S P V : Nat) (W : World) : Prop where
  sep : W.cell? ⟨P, 0, none⟩ = some (.string ⟨#[47]⟩)
  save : W.cell? ⟨V, 0, none⟩ = some (.int .i64 0)
  free : W.frozen? ⟨S, 0, none⟩ = false
set_option maxHeartbeats 4000000 in
set_option maxRecDepth 100000 in
theorem split33 (n l S P V : Nat) (J Jx : World → Prop) (hJ : ∀ W v, J W → J (W.setCell ⟨S, 0, none⟩ (.string v))) (hJc : ∀ W, J W → Boxes S P V W)
    (hY : ∀ x W1, J W1 → YieldAt Fence.wide (n - 1) Tryd.prog l #[.string x] W1 fun e W' => (isDot (L x) = false ∧ e = .returned (.bool true) ∧ J W' ∧ W'.cell? ⟨S, 0, none⟩ = W1.cell? ⟨S, 0, none⟩) ∨ (isDot (L x) = true ∧ e = .returned (.bool false) ∧ Jx W'))
    (W : World) (p : ByteArray) (hp : (p.size : Int) ≤ 1048576) (hS : W.cell? ⟨S, 0, none⟩ = some (.string p)) (h0 : J W) :
    CallsIn Fence.wide n Tryd.prog 33 #[.func (.yield l) #[] #[], .pointer (some ⟨P, 0, none⟩), .pointer (some ⟨S, 0, none⟩), .pointer (some ⟨V, 0, none⟩)] W fun e W' => (∃ v, e = .returned v) ∧ ((holdsDot (L p) = false ∧ J W') ∨ (holdsDot (L p) = true ∧ Jx W')) := by
  have HJ := hide hJ
  have HJC := hide hJc
  have HYI := hide hY
  have b0 := hJc W h0
  obtain ⟨s0, v0, f0⟩ := b0
  have H0 := hide h0
  obtain ⟨r, hr⟩ : ∃ r, holdsDot (L p) = r := ⟨_, rfl⟩
  rw [hr]
  have HR := hide hr
  clear hJ hJc hY h0 hr
  refine callsIn_of_wp Tryd.func33 rfl trivial ?_ rfl
  simp only [Tryd.ntmps33, List.size_toArray, List.length_cons, List.length_nil, Nat.reduceAdd, Nat.reduceSub, Array.replicate_succ, Array.replicate_zero, List.push_toArray, List.append_toArray, List.nil_append, List.cons_append]
  gi_wp2
  gi_loopw [7] (fun _ wr => ∃ q : ByteArray, wr.cell? ⟨S, 0, none⟩ = some (.string q) ∧ q.size ≤ p.size ∧ Hid (J wr ∧ holdsDot (L q) = r)) (fun _ wr => leftAt S wr)
  case atStart => exact ⟨p, hS, Nat.le_refl _, hide ⟨H0.out, HR.out⟩⟩
  case round =>
    obtain ⟨q, hq, hqs, HJr⟩ := hrel
    clear s0 v0 f0 H0 HR hS
    obtain ⟨s0, v0, f0⟩ := HJC.out wr HJr.out.1
    have hqI : (q.size : Int) ≤ 1048576 := by omega
    have hsa := seg_aft (L q)
    obtain ⟨t, ht⟩ : ∃ t, seg (L q) = t := ⟨_, rfl⟩
    obtain ⟨k, hk⟩ : ∃ k, t.length = k := ⟨_, rfl⟩
    have hno : no47 t := by rw [← ht]; exact seg_no47 _
    cases haft : aft (L q) with
    | nil =>
      have HI := hide (index35 q wr (L q) rfl (-1) (by rw [haft]; rfl))
      have hdot : holdsDot (L q) = isDot (L q) := by
        rw [haft, List.append_nil, ht] at hsa
        show hd [] (L q) = _
        rw [← hsa]
        exact hd_no47 t [] hno
      obtain ⟨fn, tmps, assign, body, hy, hR⟩ := HYI.out q wr HJr.out.1
      have HRR := hide hR
      have HD := hide hdot
      clear hR hdot hsa ht hk hno haft
      gi_wp2_with fail
      refine ⟨trivial, fun h => (by cases h), (callsIn_wide.2 (unhide HI)).mono ?_⟩
      rintro e w1 ⟨rfl, h00⟩
      obtain rfl : wr = w1 := h00.symm
      clear h00 HI
      gi_wp2_with fail
      refine ⟨fun h => (by cases h), (unhide HRR).mono ?_⟩
      have hrq : isDot (L q) = r := by rw [← HD.out]; exact HJr.out.2
      rintro e W3 (⟨hd3, rfl, hJ3, hk3⟩ | ⟨hd3, rfl, hJx3⟩)
      · rw [hrq] at hd3
        gi_wp2_with fail
        go_end0
        exact ⟨⟨_, rfl⟩, .inl ⟨hd3, hJ3⟩⟩
      · rw [hrq] at hd3
        gi_wp2_with fail
        go_end0
        exact ⟨⟨_, rfl⟩, .inr ⟨hd3, hJx3⟩⟩
    | cons x rr =>
      have hx := aft_head _ x rr haft
      subst hx
      have HI := hide (index35 q wr (L q) rfl k (by rw [haft, ht, hk]; rfl))
      rw [haft, ht] at hsa
      have hqsz : q.size = k + 1 + rr.length := by rw [← L_len, ← hsa, List.length_append, List.length_cons, hk]; omega
      obtain ⟨g, hg⟩ : ∃ g, q.extract 0 k = g := ⟨_, rfl⟩
      obtain ⟨q2, hq2⟩ : ∃ q2, q.extract (k + 1) q.size = q2 := ⟨_, rfl⟩
      have hgl : L g = t := by
        rw [← hg, L_ext, ← hsa, List.drop_zero, Nat.sub_zero, ← hk, List.take_left]
      have hq2l : L q2 = rr := by
        have e1 : k + 1 = (t ++ [47]).length := by simp [hk]
        have e2 : t ++ 47 :: rr = (t ++ [47]) ++ rr := by simp
        rw [← hq2, L_ext, ← hsa, e2, e1, List.drop_left, List.take_of_length_le (by rw [hqsz, ← e1]; omega)]
      have hdot : holdsDot (L q) = (isDot (L g) || holdsDot (L q2)) := by
        show hd [] (L q) = (isDot (L g) || hd [] (L q2))
        rw [hgl, hq2l, ← hsa, hd_app, hd_no47 t [] hno]
        rfl
      have hkI : (k : Int) + 1 ≤ q.size := by omega
      have hlt : q2.size < q.size := by rw [← L_len q2, hq2l]; omega
      obtain ⟨fn, tmps, assign, body, hy, hR⟩ := HYI.out g wr HJr.out.1
      have HRR := hide hR
      have HD := hide hdot
      have HLT := hide hlt
      clear hR hdot hsa ht hk hno haft hqsz hgl hq2l hlt
      gi_wp2_with fail
      refine ⟨trivial, fun h => (by cases h), (callsIn_wide.2 (unhide HI)).mono ?_⟩
      rintro e w1 ⟨rfl, h00⟩
      obtain rfl : wr = w1 := h00.symm
      clear h00 HI
      gi_wp2_with fail
      refine ⟨fun h => (by cases h), (unhide HRR).mono ?_⟩
      rintro e W3 (⟨hd3, rfl, hJ3, hk3⟩ | ⟨hd3, rfl, hJx3⟩)
      · have hrr : holdsDot (L q2) = r := by
          have := HD.out
          rw [HJr.out.2, hd3] at this
          rw [this]; rfl
        have hq3 : W3.cell? ⟨S, 0, none⟩ = some (.string q) := hk3.trans hq
        obtain ⟨s3, v3, f3⟩ := HJC.out W3 hJ3
        have HJ3 := hide (HJ.out W3 q2 hJ3)
        have HRR2 := hide hrr
        have HQ := hide hq
        clear hJ3 hk3 hy hrr hq s0 v0 f0 hd3
        gi_wp2_with fail
        have hc3 : (W3.setCell ⟨S, 0, none⟩ (.string q2)).cell? ⟨S, 0, none⟩ = some (.string q2) := World.cell?_setCell_same W3 _ _ hq3
        go_roundw
        case rel => exact ⟨q2, hc3, by have := HLT.out; omega, hide ⟨HJ3.out, HRR2.out⟩⟩
        case measure =>
          show leftAt S (W3.setCell ⟨S, 0, none⟩ (.string q2)) < leftAt S wr
          unfold leftAt
          rw [hc3, HQ.out]
          exact HLT.out
      · have hrr : r = true := by rw [← HJr.out.2, HD.out, hd3]; rfl
        gi_wp2_with fail
        refine bodyPost_ret (results_none rfl _ _ _) rfl ?_
        exact ⟨⟨_, rfl⟩, .inr ⟨hrr, hJx3⟩⟩
end Go.Proofs.Qxb6614616aDoor
