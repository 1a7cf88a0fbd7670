/-
  iriB1Scan runs the machine.
-/
import Derived.Test.Qxb6614616aFmtC12
namespace Go.Proofs.Qxb6614616aFmt
open Go.RowKit Go.Lib
set_option linter.unusedSimpArgs false
/-- The scan's own array. -/
structure Scn (w wr : World) (p : Nat → Nat) : Prop where
  below : Below w.heap.size w wr
  size : w.heap.size < wr.heap.size
  cell : ∀ j, j < 4 → wr.cell? ⟨w.heap.size, j, none⟩ = some (.int .u8 (p j))
  free : ∀ j, wr.frozen? ⟨w.heap.size, j, none⟩ = false
theorem Scn.on {w wr wr' : World} {p : Nat → Nat} (h : Scn w wr p) (hb : Below wr.heap.size wr wr') : Scn w wr' p := by
  obtain ⟨k1, k2⟩ := below_cells hb h.size
  exact ⟨h.below.trans (hb.mono (Nat.le_of_lt h.size)), Nat.lt_of_lt_of_le h.size hb.size, fun j hj => (k1 j).trans (h.cell j hj), fun j => (k2 j).trans (h.free j)⟩
theorem Scn.set {w wr : World} {p : Nat → Nat} (h : Scn w wr p) {k : Nat} (hk : k < 4) (c : Nat) : Scn w (wr.setCell ⟨w.heap.size, k, none⟩ (.int .u8 c)) (setP p k c) := by
  have u := Upd.set (h.cell k hk) (.int .u8 c)
  refine ⟨h.below.trans u.below, Nat.lt_of_lt_of_le h.size u.below.size, fun j hj => ?_, fun j => (u.free j).trans (h.free j)⟩
  unfold setP
  by_cases e : j = k
  · subst e; rw [if_pos rfl]; exact u.here
  · rw [if_neg e]; exact u.other e (h.cell j hj)
theorem at_uni {a i k c st r : Nat} {s : ByteArray} {p : Nat → Nat} {bad ref : Bool} (h : stAt a s i = ⟨k, p, bad, ref⟩) (hg : (s.get! i).toNat = c) (hc : ¬ c < 128)
    (hsr : scanN (k + 1) (setP p k c 0) (setP p k c 1) (setP p k c 2) (setP p k c 3) = (st, r)) :
    stAt a s (i + 1) = ⟨(uniNext a (k + 1) st r bad ref).1, setP p k c, (uniNext a (k + 1) st r bad ref).2.1, (uniNext a (k + 1) st r bad ref).2.2⟩ := by
  show (stAt a s i).step a (s.get! i).toNat = _
  rw [h, hg]
  unfold St.step
  rw [if_neg hc]
  have : St.scan ⟨k, p, bad, ref⟩ c = (st, r) := hsr
  rw [this]
theorem at_asc {a i k c : Nat} {s : ByteArray} {p : Nat → Nat} {bad ref : Bool} (h : stAt a s i = ⟨k, p, bad, ref⟩) (hg : (s.get! i).toNat = c) (hc : c < 128) :
    stAt a s (i + 1) = ⟨k, p, bad, ref || !allow c⟩ := by
  show (stAt a s i).step a (s.get! i).toNat = _
  rw [h, hg]
  unfold St.step
  rw [if_pos hc]
set_option maxRecDepth 100000 in
set_option maxHeartbeats 8000000 in
theorem scan_any (a : Nat) (s : ByteArray) (w : World) (hs : (s.size : Int) ≤ 65536) :
    Calls Tryf.prog 9 #[.string s, .bool (decide (a = 5))] w fun e w' => (∃ pv, e = .returned (.tuple #[.bool (stAt a s s.size).ref, .bool (stAt a s s.size).bad, .bool pv])) ∧ Below w.heap.size w w' := by
  generalize hQ : (fun (e : Ending) (w' : World) => (∃ pv, e = .returned (.tuple #[.bool (stAt a s s.size).ref, .bool (stAt a s s.size).bad, .bool pv])) ∧ Below w.heap.size w w') = Q
  have HQ : Hid _ := hQ; clear hQ
  obtain ⟨iq, hiq⟩ : ∃ iq, decide (a = 5) = iq := ⟨_, rfl⟩
  rw [hiq]
  have HIQ : Hid _ := hiq; clear hiq
  have HS := hide hs
  go_enter Tryf.func9, Tryf.ntmps9
  go_wp2_with fail
  go_loopw [7, 8, 9, 11, 12] (fun rf bd pv kk ii wr => ∃ (i k : Nat) (p : Nat → Nat) (bad ref pr : Bool), i ≤ s.size ∧ Hid (stAt a s i = ⟨k, p, bad, ref⟩) ∧ rf = .bool ref ∧ bd = .bool bad ∧ pv = .bool pr ∧ kk = .int .i64 k ∧ ii = .int .i64 i ∧ Hid (Scn w wr p)) (fun _ _ _ _ ii _ => s.size - (RowKit.intOf ii).toNat)
  case atStart =>
    refine ⟨0, 0, fun _ => 0, false, false, false, Nat.zero_le _, rfl, rfl, rfl, rfl, rfl, rfl, ?_⟩
    show Scn w _ _
    refine ⟨(Below.refl _ _).alloc (Nat.le_refl _) _, by simp, fun j hj => ?_, fun j => World.frozen?_alloc_at _ _ _ _ rfl⟩
    rw [World.cell?_alloc_at _ _ _ _ rfl]
    rcases (by omega : j = 0 ∨ j = 1 ∨ j = 2 ∨ j = 3) with rfl | rfl | rfl | rfl <;> rfl
  case round =>
    obtain ⟨i, k, p, bad, ref, pr, hi, hst, rfl, rfl, rfl, rfl, rfl, hscn⟩ := hrel
    by_cases hlt : i < s.size
    · obtain ⟨x, hx⟩ : ∃ x, s[i]'hlt = x := ⟨_, rfl⟩
      have hg : s.get! i = x := (Utf8W.get!_of_lt s i hlt).trans hx
      have hxl : x.toNat < 256 := UInt8.toNat_lt x
      obtain ⟨c, hc⟩ : ∃ c, x.toNat = c := ⟨_, rfl⟩
      have HG : Hid ((s.get! i).toNat = c) := by show (s.get! i).toNat = c; rw [hg, hc]
      have hix : ((s[i]'hlt).toNat : Int) = (c : Int) := by rw [hx, hc]
      have hltI : (i : Int) < s.size := by omega
      rw [hc] at hxl
      have hok : St.ok ⟨k, p, bad, ref⟩ := by have := ok_at a s i; rw [hst.out] at this; exact this
      clear hg hx hc
      by_cases hc8 : c < 128
      · have HA := hide (b1Ascii_any c wr (by omega))
        have hcI : (c : Int) < 128 := by omega
        have HC8 := hide hc8
        clear hc8 hok hxl
        obtain ⟨al, hal⟩ : ∃ al, allow c = al := ⟨_, rfl⟩
        rw [hal] at HA
        have HAL := hide hal
        clear hal
        cases al
        all_goals
          go_wp2_with ((go_at_call 15; refine (unhide HA).mono ?_; rintro e w' ⟨rfl, rfl⟩))
          go_roundw
          case rel =>
            have hn := at_asc hst.out HG.out HC8.out
            rw [HAL.out] at hn
            first
              | (refine ⟨i + 1, k, p, bad, ref, pr, by omega, ?_, rfl, rfl, rfl, rfl, by go_num, hscn⟩
                 show stAt a s (i + 1) = _; rw [hn]; simp)
              | (refine ⟨i + 1, k, p, bad, true, pr, by omega, ?_, rfl, rfl, rfl, rfl, by go_num, hscn⟩
                 show stAt a s (i + 1) = _; rw [hn]; simp)
          case measure => simp [RowKit.intOf]; omega
      · obtain ⟨p0, p1, p2⟩ := hok.pre (c := c) (by omega) hxl
        have hk3 : k ≤ 3 := hok.short
        have hp' : ∀ j, j < 4 → setP p k c j < 256 := fun j hj => by
          unfold setP; split
          · exact hxl
          · exact hok.byte j hj
        have hs4 := hscn.out.set (k := k) (by omega) c
        have HStep := hide (step_any (k + 1) (setP p k c 0) (setP p k c 1) (setP p k c 2) (setP p k c 3) (wr.setCell ⟨w.heap.size, k, none⟩ (.int .u8 c)) p0 (by have : setP p k c 0 < 256 := p1; omega) (hp' 1 (by omega)) (hp' 2 (by omega)) (hp' 3 (by omega)) (by omega) p2)
        have hdec : (scanN (k + 1) (setP p k c 0) (setP p k c 1) (setP p k c 2) (setP p k c 3)).1 ≠ 0 → _ := scan_dec (k + 1) (setP p k c 0) (setP p k c 1) (setP p k c 2) (setP p k c 3) p0 (by have : setP p k c 0 < 256 := p1; omega) (hp' 1 (by omega)) (hp' 2 (by omega)) (hp' 3 (by omega)) (by omega) p2
        obtain ⟨st, r, hsr⟩ : ∃ st r, scanN (k + 1) (setP p k c 0) (setP p k c 1) (setP p k c 2) (setP p k c 3) = (st, r) := ⟨_, _, rfl⟩
        have HNX := hide (at_uni hst.out HG.out hc8 hsr)
        rw [hsr] at HStep hdec
        have hcase : st = 0 ∨ st = 2 ∨ (st = 1 ∧ (r : Int) ≤ 1114111) := by
          by_cases h0 : st = 0
          · exact .inl h0
          · rcases hdec h0 with h | h
            · exact .inr (.inl h.1)
            · exact .inr (.inr ⟨h.1, by have : r ≤ 1114111 := h.2.2.2; omega⟩)
        have hcI : (128 : Int) ≤ c := by omega
        have cc0 := hscn.out.cell 0 (by omega)
        have cc1 := hscn.out.cell 1 (by omega)
        have cc2 := hscn.out.cell 2 (by omega)
        have cc3 := hscn.out.cell 3 (by omega)
        have ff := hscn.out.free k
        have HS4 := hide hs4
        clear hdec hsr hs4 hp' p0 p1 p2 hok hc8 hscn
        rcases (by omega : k = 0 ∨ k = 1 ∨ k = 2 ∨ k = 3) with rfl | rfl | rfl | rfl
        all_goals
          clear hk3
          rcases hcase with rfl | rfl | ⟨rfl, hr⟩
          · go_wp2_with ((go_at_call 16; refine (unhide HStep).mono ?_; rintro e w5 ⟨rfl, hb5⟩))
            go_roundw
            case rel =>
              exact ⟨i + 1, _, _, _, _, pr, by omega, HNX, rfl, rfl, rfl, rfl, by go_num, HS4.out.on hb5⟩
            case measure => simp [RowKit.intOf]; omega
          · go_wp2_with ((go_at_call 16; refine (unhide HStep).mono ?_; rintro e w5 ⟨rfl, hb5⟩))
            go_roundw
            case rel =>
              exact ⟨i + 1, _, _, _, _, pr, by omega, HNX, rfl, rfl, rfl, rfl, by go_num, HS4.out.on hb5⟩
            case measure => simp [RowKit.intOf]; omega
          · have HV := hide (fun W => b1Private_any r W)
            have HU := hide (fun W => b1Ucs_any r W hr)
            rw [uni_1, HIQ.out] at HNX
            obtain ⟨pv, hpv⟩ : ∃ pv, prvG r = pv := ⟨_, rfl⟩
            obtain ⟨uc, huc⟩ : ∃ uc, ucsG r = uc := ⟨_, rfl⟩
            rw [hpv] at HV HNX
            rw [huc] at HU HNX
            clear hr hpv huc
            cases pv <;> cases uc <;> cases iq
            all_goals
              go_wp2_with ((first | (go_at_call 16; refine (unhide HStep).mono ?_; rintro e w5 ⟨rfl, hb5⟩) | (go_at_call 17; refine (unhide HV _).mono ?_; rintro e w' ⟨rfl, rfl⟩) | (go_at_call 18; refine (unhide HU _).mono ?_; rintro e w' ⟨rfl, rfl⟩)))
              go_roundw
              case rel =>
                exact ⟨i + 1, _, _, _, _, _, by omega, hide (by simpa using HNX.out), rfl, rfl, rfl, rfl, by go_num, HS4.out.on hb5⟩
              case measure => simp [RowKit.intOf]; omega
    · have hi2 : i = s.size := by omega
      go_wp2_with fail
      rw [← HQ.out]
      subst hi2
      rw [hst.out]
      exact ⟨⟨pr, rfl⟩, hscn.out.below⟩
end Go.Proofs.Qxb6614616aFmt
