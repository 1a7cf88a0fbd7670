/-
  The law returns true.
-/
import Derived.Test.Qxb6614616aFmtC13
import Derived.Test.Qxb6614616aFmtC14
namespace Go.Proofs.Qxb6614616aFmt
open Go.RowKit Go.Lib
set_option linter.unusedSimpArgs false
def qAt (o : Bool) (s : ByteArray) (i : Nat) : ByteArray := if o then s.extract 0 (min i 3) else ByteArray.empty
def oAt (o : Bool) (i : Nat) : Bool := o && decide (i < 3)
theorem q_size (o : Bool) (s : ByteArray) (i : Nat) (h : oAt o i = true) : (qAt o s i).size ≤ 2 := by
  unfold oAt at h
  simp at h
  unfold qAt
  rw [h.1, if_pos rfl]
  simp
  omega
theorem o_next (o : Bool) (s : ByteArray) (i : Nat) (hi : i ≤ s.size) : oNext (oAt o i) (qAt o s i) = oAt o (i + 1) := by
  unfold oNext oAt qAt
  cases o
  · simp
  · by_cases h : i < 3
    · simp [h]; omega
    · simp [h]; omega
theorem ext_one (s : ByteArray) (i : Nat) (hi : i < s.size) : s.extract 0 i ++ one (s.get! i).toNat = s.extract 0 (i + 1) := by
  have hg : s.get! i = s[i]'hi := Utf8W.get!_of_lt s i hi
  have ho : one (s.get! i).toNat = ⟨#[s[i]'hi]⟩ := by
    unfold one; rw [hg]; simp
  rw [ho]
  apply ByteArray.ext
  rw [ByteArray.data_append, ByteArray.data_extract, ByteArray.data_extract]
  show s.data.extract 0 i ++ #[s.data[i]'hi] = _
  apply Array.ext'
  simp
theorem q_next (o : Bool) (s : ByteArray) (i : Nat) (hi : i < s.size) : qNext (oAt o i) (qAt o s i) (s.get! i).toNat = qAt o s (i + 1) := by
  unfold qNext oAt qAt
  cases o
  · simp
  · by_cases h : i < 3
    · rw [if_pos (by simp [h]), if_pos rfl, if_pos rfl, Nat.min_eq_left (by omega), Nat.min_eq_left (by omega)]
      exact ext_one s i hi
    · rw [if_neg (by simp [h]), if_pos rfl, if_pos rfl, Nat.min_eq_right (by omega), Nat.min_eq_right (by omega)]
set_option maxRecDepth 100000 in
set_option maxHeartbeats 8000000 in
theorem law_main (a : Nat) (o : Bool) (s : ByteArray) (w : World) (ht : Utf8Tabs 0 1 w) (h2 : 2 ≤ w.heap.size) (ha : (a : Int) ≤ 6) (hs : (s.size : Int) ≤ 65536) :
    Calls Tryf.prog 3 #[.int .u8 a, .bool o, .string s] w fun e w' => e = .returned (.bool true) ∧ Below w.heap.size w w' := by
  generalize hQ : (fun (e : Ending) (w' : World) => e = .returned (.bool true) ∧ Below w.heap.size w w') = Q
  have HQ := hide hQ; clear hQ
  have HBy := hide (bytes_any a o s w hs)
  have HNew := hide (new_any a o w ht h2)
  have HT := hide ht
  have H2 := hide h2
  clear ht h2
  obtain ⟨iq, hiq⟩ : ∃ iq, decide (a = 5) = iq := ⟨_, rfl⟩
  have hat : ((a : Int) == 5) = iq := by rw [← hiq]; by_cases h : a = 5 <;> simp [h] <;> omega
  have HIQ := hide hiq; clear hiq
  go_enter Tryf.func3, Tryf.ntmps3
  go_wp2_with fail
  refine (unhide HBy).mono ?_
  rintro e w' ⟨rfl, rfl⟩
  go_wp2_with fail
  refine (unhide HNew).mono ?_
  rintro e w1 ⟨rfl, hn, hb⟩
  have HN := hide hn
  have HB := hide hb
  clear hn hb HNew HBy
  go_wp2_with fail
  go_loopw [8] (fun ii wr => ∃ i : Nat, i ≤ s.size ∧ ii = .int .i64 i ∧ Hid (Nrm w'.heap.size a (stAt a s i).k (stAt a s i).p (stAt a s i).bad (stAt a s i).ref (oAt o i) (qAt o s i) wr) ∧ Hid (Below w'.heap.size w' wr)) (fun ii _ => s.size - (RowKit.intOf ii).toNat)
  case atStart =>
    refine ⟨0, Nat.zero_le _, rfl, ?_, HB⟩
    have e1 : oAt o 0 = o := by unfold oAt; simp
    have e2 : qAt o s 0 = ByteArray.empty := by
      unfold qAt; cases o
      · rfl
      · rw [if_pos rfl]; apply ByteArray.ext; simp
    rw [e1, e2]
    exact HN
  case round =>
    obtain ⟨i, hi, rfl, hn, hb⟩ := hrel
    clear HN HB
    by_cases hlt : i < s.size
    · obtain ⟨x, hx⟩ : ∃ x, s[i]'hlt = x := ⟨_, rfl⟩
      have hg : s.get! i = x := (Utf8W.get!_of_lt s i hlt).trans hx
      have hltI : (i : Int) < s.size := by omega
      have HC := hide (zzcheck_any w'.heap.size a (stAt a s i) (oAt o i) (qAt o s i) x.toNat wr hn.out (ok_at a s i) (q_size o s i) (UInt8.toNat_lt x))
      rw [← hg, o_next o s i hi, q_next o s i hlt, hg] at HC
      have HG := hide hg
      clear hg
      go_wp2_with ((go_at_call 7; refine (unhide HC).mono ?_; rintro e w2 ⟨rfl, hn2, hb2⟩; have HN2 := hide hn2; have HB2 := hide hb2; clear hn2 hb2))
      go_roundw
      case rel =>
        have hst : (stAt a s i).step a x.toNat = stAt a s (i + 1) := by rw [← HG.out]; rfl
        have h3 := HN2.out
        rw [hst] at h3
        exact ⟨i + 1, by omega, by go_num, h3, hb.out.trans HB2.out⟩
      case measure => simp [RowKit.intOf]; omega
    · obtain rfl : i = s.size := by omega
      have HSc := hide (fun W => scan_any a s W hs)
      rw [HIQ.out] at HSc
      obtain ⟨rf, hrf⟩ : ∃ rf, (stAt a s s.size).ref = rf := ⟨_, rfl⟩
      obtain ⟨bd, hbd⟩ : ∃ bd, (stAt a s s.size).bad = bd := ⟨_, rfl⟩
      obtain ⟨q, hq⟩ : ∃ q, qAt o s s.size = q := ⟨_, rfl⟩
      obtain ⟨op, hop⟩ : ∃ op, oAt o s.size = op := ⟨_, rfl⟩
      rw [hrf, hbd, hq, hop] at hn
      rw [hrf, hbd] at HSc
      have HQt := hide (zzquote_any hn.out)
      have HOp := hide hop
      have HQ1 := hide hq
      clear hlt hi hrf hbd hq hop
      go_wp2_with fail
      refine (unhide HQt).mono ?_
      rintro e w2 ⟨rfl, nq, rfl⟩
      clear HQt
      have hd : Below (w'.heap.size + 1) wr (wr.drewN nq) := below_drewN (Below.refl _ _) nq
      have HN2 := hide (hn.out.below hd (Nat.lt_succ_self _))
      have HB2 := hide (hb.out.trans (hd.mono (Nat.le_succ _)))
      clear hd hn hb
      go_wp2_with fail
      refine (unhide HSc _).mono ?_
      rintro e w3 ⟨⟨pv, rfl⟩, hb3⟩
      have h3 := HN2.out.below hb3 HN2.out.size
      have HB3 := hide (HB2.out.trans (hb3.mono (Nat.le_of_lt HN2.out.size)))
      have HR := hide (zzrefused_any h3)
      have HBd := hide (zzbad_any h3)
      have HM := hide (min3_any s.size w3)
      clear hb3 h3 HN2 HB2 HSc
      cases o
      · have hqe : q = ⟨#[]⟩ := by rw [← HQ1.out]; rfl
        subst hqe
        have hope : op = false := by rw [← HOp.out]; rfl
        subst hope
        go_wp2_with ((first | (go_at_call 11; refine (unhide HR).mono ?_; rintro e w' ⟨rfl, rfl⟩) | (go_at_call 12; refine (unhide HBd).mono ?_; rintro e w' ⟨rfl, rfl⟩)))
        rw [← HQ.out]
        exact ⟨rfl, HB3.out⟩
      · have hope : op = decide (s.size < 3) := by rw [← HOp.out]; unfold oAt; simp
        obtain ⟨m, hm⟩ : ∃ m, min s.size 3 = m := ⟨_, rfl⟩
        rw [hm] at HM
        have hml : m ≤ s.size := by omega
        have hex : s.extract 0 m = q := by rw [← HQ1.out, ← hm]; rfl
        have HOP := hide hope
        have HMM := hide hm
        clear hope hm
        go_wp2_with ((first | (go_at_call 10; refine (unhide HM).mono ?_; rintro e w' ⟨rfl, rfl⟩) | (go_at_call 11; refine (unhide HR).mono ?_; rintro e w' ⟨rfl, rfl⟩) | (go_at_call 12; refine (unhide HBd).mono ?_; rintro e w' ⟨rfl, rfl⟩)))
        rw [← HQ.out]
        refine ⟨?_, HB3.out⟩
        have e1 : decide ((s.size : Int) < 3) = decide (s.size < 3) := decide_eq_decide.2 (by omega)
        have e2 := HOP.out
        exact ret_bool (by rw [e1, ← e2]; exact beq_self_eq_true _)
set_option maxRecDepth 100000 in
set_option maxHeartbeats 2000000 in
theorem law_any (a : Nat) (o : Bool) (s : ByteArray) (w : World) (ht : Utf8Tabs 0 1 w) (h2 : 2 ≤ w.heap.size) :
    Calls Tryf.prog 3 #[.int .u8 a, .bool o, .string s] w fun e w' => e = .returned (.bool true) ∧ Below w.heap.size w w' := by
  by_cases hs : (s.size : Int) ≤ 65536
  · by_cases ha : (a : Int) ≤ 6
    · exact law_main a o s w ht h2 ha hs
    · have HBy := hide (bytes_any a o s w hs)
      have ha' : (7 : Int) ≤ a := by omega
      clear ha ht h2
      go_enter Tryf.func3, Tryf.ntmps3
      go_wp2_with fail
      refine (unhide HBy).mono ?_
      rintro e w' ⟨rfl, rfl⟩
      go_wp2_with fail
      go_ret
      exact ⟨rfl, Below.refl _ _⟩
  · have hs' : (65537 : Int) ≤ s.size := by omega
    clear hs ht h2
    go_enter Tryf.func3, Tryf.ntmps3
    go_wp2
    all_goals
      go_ret
      exact ⟨rfl, Below.refl _ _⟩
end Go.Proofs.Qxb6614616aFmt
