/-
  (IRI).String, walked.
-/
import Derived.Test.Qxb6614616aDoorD3
import Derived.Test.Qxb6614616aDoorJ1
import Derived.Laws.IdiomCopy
namespace Go.Proofs.Qxb6614616aDoor
open Go.RowKit
set_option linter.unusedSimpArgs false
theorem Chain.alloc {D : Nat} {ts : List (List UInt8)} {p : Option Addr} {w : World} (h : Chain D w ts p) (o : Obj) : Chain D (w.alloc o) ts p :=
  Chain.keep (fun b o' _ hb => World.cell?_alloc_past o b o' hb) (by simp) ts p h
theorem Chain.below {D N : Nat} {ts : List (List UInt8)} {p : Option Addr} {w w' : World} (h : Chain D w ts p) (hb : Below N w w') (hN : w.heap.size ≤ N) : Chain D w' ts p :=
  Chain.keep (fun b o' _ h2 => hb.cell (p := ⟨b, o', none⟩) (Nat.lt_of_lt_of_le h2 hN)) hb.size ts p h
theorem len31 (D : Nat) (ts : List (List UInt8)) (p : Option Addr) (w : World) (h : Chain D w ts p) (hb : ((flat ts).length : Int) ≤ 1048576) : Calls Tryd.prog 31 #[.agg #[.pointer p, .string ⟨#[]⟩]] w fun e w' => e = .returned (.int .i64 (flat ts).length) ∧ Below w.heap.size w w' := by
  have HL := hide (fun k => len39 D ts p ((w.alloc (.cells #[.pointer p, .string ⟨#[]⟩] 43)).drewN k) ((h.alloc _).drewN k))
  generalize (flat ts).length = n at HL hb ⊢
  clear h
  go_enter Tryd.func31, Tryd.ntmps31
  go_wp2_with fail
  go_quiet ((go_at_call 39; exact Calls.quiet_of_same (unhide HL _)))
  go_wp2_with fail
  have hB : ∀ k, Below w.heap.size w ((w.alloc (.cells #[.pointer p, .string ⟨#[]⟩] 43)).drewN k) := fun k => below_dr ((Below.refl _ _).alloc (Nat.le_refl _) _) k
  first | (go_ret; exact ⟨rfl, hB _⟩) | exact ⟨rfl, hB _⟩
theorem str21_nil (p : Option Addr) (D : Nat) (w : World) (h : Chain D w [] p) : Calls Tryd.prog 21 #[.agg #[.pointer p, .string ⟨#[]⟩]] w fun e w' => e = .returned (.string (ofL (flat []))) ∧ Below w.heap.size w w' := by
  obtain rfl : p = none := h
  go_enter Tryd.func21, Tryd.ntmps21
  go_wp2_with fail
  go_ret
  exact ⟨rfl, (Below.refl _ _).alloc (Nat.le_refl _) _⟩
theorem app_nil (tb : ByteArray) : tb ++ (ByteArray.mk #[]) = tb := by
  apply L_inj
  show (tb ++ (ByteArray.mk #[])).data.toList = _
  rw [ByteArray.data_append]
  simp
theorem str21_one (p : Option Addr) (D : Nat) (t : List UInt8) (w : World) (h : Chain D w [t] p) (hb : ((flat [t]).length : Int) ≤ 1048576) : Calls Tryd.prog 21 #[.agg #[.pointer p, .string ⟨#[]⟩]] w fun e w' => e = .returned (.string (ofL (flat [t]))) ∧ Below w.heap.size w w' := by
  obtain ⟨b, q, rfl, h1, h2, c0, c1, c2, hr⟩ := h
  obtain rfl : q = none := hr
  have e : flat [t] = t := by simp [flat]
  rw [e] at hb ⊢
  have hsz := size_ofL t
  generalize ofL t = tb at c1 hsz ⊢
  have hno : ¬ (9223372036854775807 < tb.size) := by omega
  have hap := hide (app_nil tb)
  clear c2 e hsz
  have hB : ∀ k, Below w.heap.size w ((w.alloc (.cells #[.pointer (some ⟨b, 0, none⟩), .string ⟨#[]⟩] 43)).drewN k) := fun k => below_dr ((Below.refl _ _).alloc (Nat.le_refl _) _) k
  have HB := hide hB
  clear hB
  go_enter Tryd.func21, Tryd.ntmps21
  go_wp2_with fail
  go_region
  go_wp2_with fail
  go_ret
  refine ⟨?_, HB.out 1⟩
  show Ending.returned (.string (tb ++ (ByteArray.mk #[]))) = _
  rw [hap.out]
/-- The row of n bytes at Y that fills up from its end: from k on it holds F's bytes. -/
structure Buf (Y n : Nat) (F : List UInt8) (k : Nat) (W : World) : Prop where
  done : ∀ j, k ≤ j → j < n → W.cell? ⟨Y, j, none⟩ = (F.map enc8)[j]?
  some_ : ∀ j, j < n → (W.cell? ⟨Y, j, none⟩).isSome = true
  free : ∀ j, W.frozen? ⟨Y, j, none⟩ = false
theorem run_copy_str (W : World) (Y k m c ty : Nat) (tb : ByteArray) (hm : tb.size ≤ m) (hc : ∀ j, j < tb.size → (W.cell? ⟨Y, k + j, none⟩).isSome = true) (hf : ∀ j, j < tb.size → W.frozen? ⟨Y, k + j, none⟩ = false) :
    (Builtin.copy_ #[28, 9] ty #[.slice (some ⟨Y, k, none⟩) m c, .string tb]).run Tryd.prog W = .ok (.int .i64 tb.size) (W.setCells Y k ((L tb).map enc8)) := by
  obtain ⟨i0, hi, hz0, hz1, hz2⟩ := info_parts info5
  have hst := run_storeCells_cells (P := Tryd.prog) Y k ((L tb).map enc8) 0 W (by intro j hj; rw [Nat.add_zero]; exact hc j (by simpa [L_len] using hj)) (by intro j hj; rw [Nat.add_zero]; exact hf j (by simpa [L_len] using hj)) (by
    intro v hv
    obtain ⟨b, _, rfl⟩ := List.mem_map.1 hv
    rfl)
  have hmin : Nat.min tb.size m = tb.size := Nat.min_eq_left hm
  have hex : tb.extract 0 tb.size = tb := L_inj (by rw [L_ext, List.drop_zero, Nat.sub_zero, List.take_of_length_le (Nat.le_of_eq (L_len tb))])
  have htk : (tb.data.toList.map fun b => Value.int .u8 (b.toNat : Int)).take tb.size = (L tb).map enc8 := List.take_of_length_le (by rw [List.length_map]; exact Nat.le_of_eq (L_len tb))
  have hst' : (storeCells ⟨Y, k, none⟩ ((tb.data.toList.map fun b => Value.int .u8 (b.toNat : Int)).take tb.size)).run Tryd.prog W = .ok () (W.setCells Y k ((L tb).map enc8)) := by rw [htk]; exact hst
  simp [Builtin.copy_, run_underlying Tryd.underlying28, Builtin.lenOf, Builtin.firstCells, sizeOf, typeInfo, hi, hz1, hmin, hex, hst', goInt]
theorem Buf.copied {Y n : Nat} {us : List (List UInt8)} {t : List UInt8} {F : List UInt8} {W : World} (h : Buf Y n F (flat (t :: us)).length W) (hF : ∃ v, F = flat (t :: us) ++ v) (hn : (flat (t :: us)).length ≤ n) : Buf Y n F (flat us).length (W.setCells Y (flat us).length (t.map enc8)) := by
  obtain ⟨v, hv⟩ := hF
  have hl : (flat (t :: us)).length = (flat us).length + t.length := by rw [flat, List.length_append]
  have hin := World.cell?_setCells_in Y (t.map enc8) (flat us).length W (fun j hj => h.some_ _ (by rw [List.length_map] at hj; omega))
  have hout : ∀ j, (j < (flat us).length ∨ (flat us).length + t.length ≤ j) → (W.setCells Y (flat us).length (t.map enc8)).cell? ⟨Y, j, none⟩ = W.cell? ⟨Y, j, none⟩ := fun j hj =>
    World.cell?_setCells_out Y (t.map enc8) (flat us).length W ⟨Y, j, none⟩ (fun _ _ => by rw [List.length_map]; exact hj)
  have hat : ∀ i, i < t.length → (W.setCells Y (flat us).length (t.map enc8)).cell? ⟨Y, (flat us).length + i, none⟩ = (F.map enc8)[(flat us).length + i]? := fun i hi => by
    have e2 : (flat us).length + i - (List.map enc8 (flat us)).length = i := by rw [List.length_map]; omega
    rw [hin i (by rw [List.length_map]; exact hi), hv, flat, List.append_assoc, List.map_append, List.getElem?_append_right (by simp), e2, List.map_append, List.getElem?_append_left (by simpa using hi), List.getElem?_eq_getElem (by simpa using hi)]
  refine ⟨fun j h1 h2 => ?_, fun j hj => ?_, fun j => (World.frozen?_setCells Y _ _ _ _).trans (h.free j)⟩
  · by_cases c : j < (flat us).length + t.length
    · have := hat (j - (flat us).length) (by omega)
      rw [show (flat us).length + (j - (flat us).length) = j by omega] at this
      exact this
    · rw [hout j (by omega)]
      exact h.done j (by omega) h2
  · by_cases c : (flat us).length ≤ j ∧ j < (flat us).length + t.length
    · have := hat (j - (flat us).length) (by omega)
      rw [show (flat us).length + (j - (flat us).length) = j by omega] at this
      rw [this, List.getElem?_eq_getElem (by rw [List.length_map, hv, List.length_append]; omega)]
      rfl
    · rw [hout j (by omega)]
      exact h.some_ j hj
theorem flat_ne (ts : List (List UInt8)) (t : List UInt8) (us : List (List UInt8)) (h : ∃ v, flat ts = flat (t :: us) ++ v) : ∃ v, flat ts = flat us ++ v := by
  obtain ⟨v, hv⟩ := h
  exact ⟨t ++ v, by rw [hv, flat, List.append_assoc]⟩
def endAt (u : Value) (W : World) : Nat := match u with
  | .pointer (some a) => match W.cell? ⟨a.block, 2, none⟩ with
    | some (.int _ z) => z.toNat
    | _ => 0
  | _ => 0
structure Lp (D n : Nat) (F : List UInt8) (w W1 : World) (us : List (List UInt8)) (q : Option Addr) (wr : World) : Prop where
  chain : Chain D W1 us q
  ne : ∀ x ∈ us, x ≠ []
  pre : ∃ v, F = flat us ++ v
  buf : Buf W1.heap.size n F (flat us).length wr
  below : Below W1.heap.size W1 wr
theorem endAt_eq {D : Nat} {W wr : World} {us : List (List UInt8)} {q : Option Addr} (h : Chain D W us q) (hb : Below W.heap.size W wr) : endAt (.pointer q) wr = (flat us).length := by
  cases us with
  | nil =>
    obtain rfl : q = none := h
    rfl
  | cons t us =>
    obtain ⟨b, q', rfl, h1, h2, c0, c1, c2, hr⟩ := h
    have : wr.cell? ⟨b, 2, none⟩ = some (.int .i64 (flat (t :: us)).length) := (hb.cell (p := ⟨b, 2, none⟩) h2).trans c2
    show (match wr.cell? ⟨b, 2, none⟩ with
      | some (.int _ z) => z.toNat
      | _ => 0) = _
    rw [this]
    simp
theorem setCells_drew (Y : Nat) (cs : List Value) (k : Nat) (w : World) (a : Addr) : (w.drew.setCells Y k cs).cell? a = (w.setCells Y k cs).cell? a := by
  induction cs generalizing w k with
  | nil => rfl
  | cons c cs ih => exact ih (k + 1) (w.setCell ⟨Y, k, none⟩ c)
theorem below_setCells (Y : Nat) (cs : List Value) (k : Nat) (w : World) : Below Y w (w.setCells Y k cs) := by
  induction cs generalizing w k with
  | nil => exact Below.refl _ _
  | cons c cs ih => exact ((Below.refl Y w).setCell (p := ⟨Y, k, none⟩) (Nat.le_refl _) c).trans (ih (k + 1) _)
set_option maxHeartbeats 4000000 in
set_option maxRecDepth 100000 in
theorem str21_many (p : Option Addr) (D : Nat) (t t2 : List UInt8) (ts : List (List UInt8)) (w : World) (h : Chain D w (t :: t2 :: ts) p) (hb : ((flat (t :: t2 :: ts)).length : Int) ≤ 1048576) (hne : ∀ x ∈ t :: t2 :: ts, x ≠ []) : Calls Tryd.prog 21 #[.agg #[.pointer p, .string ⟨#[]⟩]] w fun e w' => e = .returned (.string (ofL (flat (t :: t2 :: ts)))) ∧ Below w.heap.size w w' := by
  obtain ⟨F, hF⟩ : ∃ F, flat (t :: t2 :: ts) = F := ⟨_, rfl⟩
  obtain ⟨n, hn⟩ : ∃ n, F.length = n := ⟨_, rfl⟩
  have HL := hide (len31 D (t :: t2 :: ts) p (w.alloc (.cells #[.pointer p, .string ⟨#[]⟩] 43)) (h.alloc _) hb)
  obtain ⟨b, q, rfl, h1, h2, c0, c1, c2, hr⟩ := h
  obtain ⟨b', q', rfl, h1', h2', c0', c1', c2', hr'⟩ := hr
  rw [hF] at c2 hb HL ⊢
  rw [hn] at c2 hb HL
  generalize hQ : (fun (e : Ending) (w' : World) => e = .returned (.string (ofL F)) ∧ Below w.heap.size w w') = Q
  have HQ := hide hQ
  have HCH : Hid (Chain D w (t :: t2 :: ts) (some ⟨b, 0, none⟩)) := hide ⟨b, _, rfl, h1, h2, c0, c1, (by rw [c2, hF, hn]), b', q', rfl, h1', h2', c0', c1', c2', hr'⟩
  have HNE := hide hne
  have HF := hide hF
  have HN := hide hn
  clear hF hn hr' c1 c1' c2' hQ hne
  go_enter Tryd.func21, Tryd.ntmps21
  go_wp2_with fail
  refine (unhide HL).mono ?_
  rintro e W1 ⟨rfl, hB1⟩
  have hB1' : Below w.heap.size w W1 := ((Below.refl _ _).alloc (Nat.le_refl _) _).trans (hB1.mono (by simp))
  obtain ⟨Z, hZ, hmk⟩ := run_make n n (Nat.le_refl _) (by omega) W1
  have x0 : W1.cell? ⟨w.heap.size, 0, none⟩ = some (.pointer (some ⟨b, 0, none⟩)) := (hB1.cell (p := ⟨w.heap.size, 0, none⟩) (by simp)).trans (by rw [World.cell?_alloc_at _ _ _ _ rfl]; rfl)
  have x1 : W1.cell? ⟨w.heap.size, 1, none⟩ = some (.string ⟨#[]⟩) := (hB1.cell (p := ⟨w.heap.size, 1, none⟩) (by simp)).trans (by rw [World.cell?_alloc_at _ _ _ _ rfl]; rfl)
  have x2 : W1.cell? ⟨b, 2, none⟩ = some (.int .i64 n) := (hB1'.cell (p := ⟨b, 2, none⟩) h2).trans c2
  have hs1 : w.heap.size < W1.heap.size := Nat.lt_of_lt_of_le (by simp) hB1.size
  have hs2 : b < W1.heap.size := by omega
  have HB1 := hide hB1'
  have HCH1 := hide (HCH.out.below hB1' (Nat.le_refl _))
  have HZ := hide hZ
  clear hB1 hB1' HL HCH c0 c2 c0' hZ
  go_wp2_with fail
  have hcp : (Builtin.copy_ #[28, 9] 3 #[.slice (some ⟨W1.heap.size, 0, none⟩) 0 0, .string ⟨#[]⟩]).run Tryd.prog (W1.alloc (.cells Z 5)).drew = .ok (.int .i64 0) (W1.alloc (.cells Z 5)).drew :=
    run_copy_str (W1.alloc (.cells Z 5)).drew W1.heap.size 0 0 0 3 ⟨#[]⟩ (Nat.le_refl _) (fun j hj => by cases hj) (fun j hj => by cases hj)
  go_region
  go_wp2_with fail
  have HLp : Hid (Lp D n F w W1 (t :: t2 :: ts) (some ⟨b, 0, none⟩) (W1.alloc (.cells Z 5)).drew) := by
    refine hide ⟨HCH1.out, HNE.out, ⟨[], by rw [HF.out, List.append_nil]⟩, ⟨fun j h1 h2 => ?_, fun j hj => ?_, fun j => ?_⟩, below_dr ((Below.refl _ _).alloc (Nat.le_refl _) _) 1⟩
    · rw [HF.out, HN.out] at h1; omega
    · show ((W1.alloc (.cells Z 5)).cell? _).isSome = true
      rw [World.cell?_alloc_at _ _ _ _ rfl, Array.getElem?_eq_getElem (by rw [HZ.out]; exact hj)]
      rfl
    · exact World.frozen?_alloc_at _ _ _ _ rfl
  clear hcp hmk x0 x1 x2 HCH1 HZ
  go_loopw [4] (fun pp wr => ∃ (us : List (List UInt8)) (q : Option Addr), pp = .pointer q ∧ Hid (Lp D n F w W1 us q wr)) (fun pp wr => endAt pp wr)
  case atStart => exact ⟨_, _, rfl, HLp⟩
  case round =>
    clear HLp
    obtain ⟨us, q, rfl, HR⟩ := hrel
    cases us with
    | nil =>
      obtain rfl : q = none := HR.out.chain
      have hcv : (convert 28 9 (.slice (some ⟨W1.heap.size, 0, none⟩) n n)).run Tryd.prog wr = .ok (.string (ofL F)) wr := conv_cells HN.out (fun i hi => HR.out.buf.done i (Nat.zero_le _) hi)
      go_wp2_with fail
      rw [← HQ.out]
      exact ⟨rfl, HB1.out.trans (HR.out.below.mono (Nat.le_of_lt hs1))⟩
    | cons u us =>
      obtain ⟨bb, q2, rfl, k1, k2, d0, d1, d2, hrr⟩ := HR.out.chain
      have e0 := (HR.out.below.cell (p := ⟨bb, 0, none⟩) k2).trans d0
      have e1 := (HR.out.below.cell (p := ⟨bb, 1, none⟩) k2).trans d1
      have e2 := (HR.out.below.cell (p := ⟨bb, 2, none⟩) k2).trans d2
      have hu : u ≠ [] := HR.out.ne u (by simp)
      have hlen : (flat (u :: us)).length = (flat us).length + u.length := by rw [flat, List.length_append]
      have hupos : 0 < u.length := List.length_pos_iff.2 hu
      have hle : (flat (u :: us)).length ≤ n := by
        obtain ⟨v, hv⟩ := HR.out.pre
        rw [← HN.out, hv, List.length_append]; omega
      have hcopied := HR.out.buf.copied HR.out.pre hle
      obtain ⟨k, hk⟩ : ∃ k, (flat us).length = k := ⟨_, rfl⟩
      obtain ⟨m, hm⟩ : ∃ m, (flat (u :: us)).length = m := ⟨_, rfl⟩
      have hsz := size_ofL u
      rw [hm] at e2 hle
      obtain ⟨tb, htb⟩ : ∃ tb, ofL u = tb := ⟨_, rfl⟩
      rw [htb] at e1 hsz
      have hkm : (m : Int) - (tb.size : Int) = (k : Int) := by omega
      have hkn : (k : Int) < n := by omega
      have hkn' : ¬ (n = k) := by omega
      have hcp : (Builtin.copy_ #[28, 9] 3 #[.slice (some ⟨W1.heap.size, k, none⟩) (n - k) (n - k), .string tb]).run Tryd.prog wr.drew = .ok (.int .i64 tb.size) (wr.drew.setCells W1.heap.size k ((L tb).map enc8)) :=
        run_copy_str wr.drew W1.heap.size k (n - k) (n - k) 3 tb (by omega) (fun j hj => HR.out.buf.some_ _ (by omega)) (fun j hj => HR.out.buf.free _)
      have HK := hide hk
      have HM := hide hm
      have HTB : Hid (L tb = u) := hide (by rw [← htb, L_ofL])
      have HCP := hide hcopied
      have HRR := hide hrr
      have HSZ := hide hsz
      clear hlen hk hm htb hcopied hrr hsz hu d0 d1 d2 hupos hle
      obtain ⟨CS, hCS⟩ : ∃ CS, (L tb).map enc8 = CS := ⟨_, rfl⟩
      rw [hCS] at hcp
      have HCS := hide hCS
      clear hCS
      go_wp2_with fail
      go_region
      have e0' : (wr.drew.setCells W1.heap.size k CS).cell? ⟨bb, 0, none⟩ = some (.pointer q2) := by
        rw [World.cell?_setCells_out W1.heap.size CS k wr.drew ⟨bb, 0, none⟩ (fun e _ => by have e : bb = W1.heap.size := e; omega)]
        exact e0
      have HLp2 : Hid (Lp D n F w W1 us q2 (wr.drew.setCells W1.heap.size k CS)) := by
        refine hide ⟨HRR.out, fun x hx => HR.out.ne x (List.mem_cons_of_mem _ hx), ?_, ?_, ?_⟩
        · obtain ⟨v, hv⟩ := HR.out.pre
          exact ⟨u ++ v, by rw [hv, flat, List.append_assoc]⟩
        · have h := HCP.out
          rw [HK.out] at h ⊢
          rw [← HTB.out, HCS.out] at h
          refine ⟨fun j a b => ?_, fun j a => ?_, fun j => ?_⟩
          · rw [← h.done j a b]; exact setCells_drew _ _ _ _ _
          · rw [setCells_drew]; exact h.some_ j a
          · rw [World.frozen?_setCells]; exact HR.out.buf.free j
        · refine HR.out.below.trans ?_
          exact (below_dr (Below.refl _ wr) 1).trans (below_setCells _ _ _ _)
      clear e0 e1 e2 hcp HCP
      go_wp2_with fail
      go_roundw
      case rel => exact ⟨us, q2, rfl, HLp2⟩
      case measure =>
        show endAt (.pointer q2) (wr.drew.setCells W1.heap.size k CS) < endAt (.pointer (some ⟨bb, 0, none⟩)) wr
        rw [endAt_eq HLp2.out.chain HLp2.out.below, endAt_eq HR.out.chain HR.out.below, flat, List.length_append]
        have : 0 < u.length := List.length_pos_iff.2 (HR.out.ne u (by simp))
        omega
theorem str21 (p : Option Addr) (D : Nat) (ts : List (List UInt8)) (w : World) (h : Chain D w ts p) (hb : ((flat ts).length : Int) ≤ 1048576) (hne : ∀ x ∈ ts, x ≠ []) : Calls Tryd.prog 21 #[.agg #[.pointer p, .string ⟨#[]⟩]] w fun e w' => e = .returned (.string (ofL (flat ts))) ∧ Below w.heap.size w w' := by
  match ts, h, hb, hne with
  | [], h, _, _ => exact str21_nil p D w h
  | [t], h, hb, _ => exact str21_one p D t w h hb
  | t :: t2 :: ts, h, hb, hne => exact str21_many p D t t2 ts w h hb hne
end Go.Proofs.Qxb6614616aDoor
