/-
  hasDotSegment, walked: a range over a function whose iterator writes what it has captured.
-/
import Derived.Test.Qxb6614616aDoorE1
namespace Go.Proofs.Qxb6614616aDoor
open Go.RowKit Go.Shelf
attribute [local go_sem] Oper.semAt_some
set_option linter.unusedSimpArgs false
structure Mid (w : World) (S P V l D : Nat) (lp : Loop) (b : Bool) (W : World) : Prop where
  loop : W.heap[l]? = some (.loop lp)
  defer : W.heap[D]? = some (.deferred (some []))
  box : Boxes S P V W
  cell : W.cell? ⟨w.heap.size, 0, none⟩ = some (.bool b)
  free : W.frozen? ⟨w.heap.size, 0, none⟩ = false
  below : Below w.heap.size w W
theorem cell_put {W : World} {l : Nat} {o : Obj} (o' : Obj) (hl : W.heap[l]? = some o) (ho : o.isCells = false) (a : Addr) (v : Value) (h : W.cell? a = some v) : (W.putObj l o').cell? a = some v :=
  cell_kept h (grownBy_putObj' W l o') (fun r e => by cases e; exact ⟨o, hl, ho⟩)
theorem frozen_put {W : World} {l : Nat} {o : Obj} (o' : Obj) (hl : W.heap[l]? = some o) (ho : o.isCells = false) (a : Addr) (v : Value) (h : W.cell? a = some v) : (W.putObj l o').frozen? a = W.frozen? a :=
  frozen_kept h (grownBy_putObj' W l o') (fun r e => by cases e; exact ⟨o, hl, ho⟩)
theorem Mid.put {w : World} {S P V l D : Nat} {lp lp' : Loop} {b : Bool} {W : World} (h : Mid w S P V l D lp b W) (hlD : l ≠ D) (hw : w.heap.size ≤ l) (hS : ∃ v, W.cell? ⟨S, 0, none⟩ = some v) : Mid w S P V l D lp' b (W.putObj l (.loop lp')) := by
  obtain ⟨v, hv⟩ := hS
  refine ⟨World.putObj_heap_same (Array.getElem?_eq_some_iff.1 h.loop).1, (World.putObj_heap_other hlD.symm).trans h.defer, ⟨cell_put _ h.loop rfl _ _ h.box.sep, cell_put _ h.loop rfl _ _ h.box.save, (frozen_put _ h.loop rfl _ _ hv).trans h.box.free⟩, cell_put _ h.loop rfl _ _ h.cell, (frozen_put _ h.loop rfl _ _ h.cell).trans h.free, ?_⟩
  exact h.below.trans (belowK_b (w := w) (Nat.le_refl _) W l _ _ hw h.loop rfl rfl)
def bodyEnd (R : Nat) (x : ByteArray) (W : World) : Exit → Act → World → Prop
  | .normal, _, W' => isDot (L x) = false ∧ W' = W
  | .ret, _, W' => isDot (L x) = true ∧ W' = W.setCell ⟨R, 0, none⟩ (.bool true)
  | _, _, _ => False
theorem range_split {assign body : Code} {Q : Exit → Act → World → Prop} {tm : Array Value} (w W0 : World) (s : ByteArray) (hs : (s.size : Int) ≤ 1048576)
    (hg : ({ tmps := tm, defers := [] } : Act).eval (.tmp 5) = .func (.func 33) #[] #[.pointer (some ⟨w.heap.size + 1 + 1, 0, none⟩), .pointer (some ⟨w.heap.size + 1, 0, none⟩), .pointer (some ⟨w.heap.size + 1 + 1 + 1, 0, none⟩)])
    (hsz : W0.heap.size = w.heap.size + 4) (cR : W0.cell? ⟨w.heap.size, 0, none⟩ = some (.bool false)) (fR : W0.frozen? ⟨w.heap.size, 0, none⟩ = false)
    (cS : W0.cell? ⟨w.heap.size + 1, 0, none⟩ = some (.string s)) (fS : W0.frozen? ⟨w.heap.size + 1, 0, none⟩ = false)
    (cP : W0.cell? ⟨w.heap.size + 1 + 1, 0, none⟩ = some (.string ⟨#[47]⟩)) (cV : W0.cell? ⟨w.heap.size + 1 + 1 + 1, 0, none⟩ = some (.int .i64 0)) (hB0 : Below w.heap.size w W0)
    (A : ByteArray → Act)
    (hassign : ∀ (l : Nat) (x : ByteArray) (W : World) (K : Act → World → Prop), K (A x) W → assign.wpIn (Fence.wide.inRound l) 3 Tryd.prog (Exit.then K (fun _ _ _ => False)) { tmps := (#[6].zip #[Value.string x]).foldl (fun t (p, v) => t.setIfInBounds p v) tm, defers := [] } W)
    (hbody : ∀ (l : Nat) (x : ByteArray) (W : World), W.cell? ⟨w.heap.size, 0, none⟩ = some (.bool false) → W.frozen? ⟨w.heap.size, 0, none⟩ = false → body.wpIn (Fence.wide.inRound l) 3 Tryd.prog (bodyEnd w.heap.size x W) (A x) W)
    (hdone : ∀ (D : Nat) (W : World), w.heap.size < D → holdsDot (L s) = false → W.heap[D]? = some (.deferred (some [])) → W.cell? ⟨w.heap.size, 0, none⟩ = some (.bool false) → W.frozen? ⟨w.heap.size, 0, none⟩ = false → Below w.heap.size w W → Q .normal { tmps := tm, defers := [{ target := .collected D, args := #[] }] } W)
    (hstop : ∀ (D : Nat) (W : World), w.heap.size < D → holdsDot (L s) = true → W.heap[D]? = some (.deferred (some [])) → W.cell? ⟨w.heap.size, 0, none⟩ = some (.bool true) → Below w.heap.size w W → Code.ret.wpIn Fence.wide 5 Tryd.prog Q { tmps := tm, defers := [{ target := .collected D, args := #[] }] } W) :
    (Code.rangeFunc (.tmp 5) #[6] assign body).wpIn Fence.wide 5 Tryd.prog Q { tmps := tm, defers := [] } W0 := by
  refine wpIn_rangeFunc ?_
  intro fn hfn
  obtain ⟨rec, hrec⟩ : ∃ rec : LoopState → Option Code → Loop, rec = fun st pe => { state := st, pending := pe, fn := fn, tmps := tm, params := #[6], assign := assign, body := body, defers := W0.heap.size } := ⟨_, rfl⟩
  obtain ⟨W1, hW1⟩ : ∃ W1, (W0.alloc (.deferred (some []))).alloc (.loop (rec .ready none)) = W1 := ⟨_, rfl⟩
  have hL1 : W1.heap[W0.heap.size + 1]? = some (.loop (rec .ready none)) := by
    rw [← hW1]; have := World.alloc_heap_new (W0.alloc (.deferred (some []))) (.loop (rec .ready none)); rwa [World.size_alloc] at this
  have hK1 : W1.heap[W0.heap.size]? = some (.deferred (some [])) := by
    rw [← hW1]; exact (Below.heap_alloc _ _ _ (by simp)).trans (World.alloc_heap_new W0 _)
  have hB1 : Below W0.heap.size W0 W1 := by
    rw [← hW1]; exact ((Below.refl _ W0).alloc (Nat.le_refl _) _).alloc (by simp) _
  have k1 : ∀ b o, b < W0.heap.size → W1.cell? ⟨b, o, none⟩ = W0.cell? ⟨b, o, none⟩ := fun b o hb => hB1.cell (p := ⟨b, o, none⟩) hb
  have f1 : ∀ b o, b < W0.heap.size → W1.frozen? ⟨b, o, none⟩ = W0.frozen? ⟨b, o, none⟩ := fun b o hb => hB1.frozen (p := ⟨b, o, none⟩) hb
  have h0 : Mid w (w.heap.size + 1) (w.heap.size + 1 + 1) (w.heap.size + 1 + 1 + 1) (W0.heap.size + 1) W0.heap.size (rec .ready none) false W1 :=
    ⟨hL1, hK1, ⟨(k1 _ _ (by omega)).trans cP, (k1 _ _ (by omega)).trans cV, (f1 _ _ (by omega)).trans fS⟩, (k1 _ _ (by omega)).trans cR, (f1 _ _ (by omega)).trans fR, hB0.trans (hB1.mono (by omega))⟩
  refine ⟨W0.heap.size + 1, [{ target := .collected W0.heap.size, args := #[] }], W1, { target := .fn (.func 33) #[.pointer (some ⟨w.heap.size + 1 + 1, 0, none⟩), .pointer (some ⟨w.heap.size + 1, 0, none⟩), .pointer (some ⟨w.heap.size + 1 + 1 + 1, 0, none⟩)], args := #[.func (.yield (W0.heap.size + 1)) #[] #[]] }, W1, 33,
    #[.func (.yield (W0.heap.size + 1)) #[] #[]] ++ #[.pointer (some ⟨w.heap.size + 1 + 1, 0, none⟩), .pointer (some ⟨w.heap.size + 1, 0, none⟩), .pointer (some ⟨w.heap.size + 1 + 1 + 1, 0, none⟩)], W1, ?_, ?_, fun _ _ => trivial, ?_, fun h => (by cases h), ?_⟩
  · rw [← hW1, hrec]; exact run_enterLoop_outer _ _ _ _ _
  · simp only [resolve, hg]
    simp [go_sem]
  · have eg : ∀ args w, (callFunc 33 args).run Tryd.prog w = .ok (.enter 33 args) w := enters_of Tryd.func33 (by kernel_rfl) rfl
    simp [invoke, go_sem, eg]
  · refine (split33 4 (W0.heap.size + 1) (w.heap.size + 1) (w.heap.size + 1 + 1) (w.heap.size + 1 + 1 + 1)
      (fun W => Mid w (w.heap.size + 1) (w.heap.size + 1 + 1) (w.heap.size + 1 + 1 + 1) (W0.heap.size + 1) W0.heap.size (rec .ready none) false W ∧ ∃ v, W.cell? ⟨w.heap.size + 1, 0, none⟩ = some v)
      (fun W => Mid w (w.heap.size + 1) (w.heap.size + 1 + 1) (w.heap.size + 1 + 1 + 1) (W0.heap.size + 1) W0.heap.size (rec .done (some .ret)) true W)
      ?hJ ?hJc ?hY W1 s hs ((k1 _ _ (by omega)).trans cS) ⟨h0, _, (k1 _ _ (by omega)).trans cS⟩).mono ?_
    case hJ =>
      rintro W v ⟨h, u, hu⟩
      have kO := KeepsOthers.setCell W ⟨w.heap.size + 1, 0, none⟩ (.string v)
      have ko : ∀ b, b ≠ w.heap.size + 1 → (W.setCell ⟨w.heap.size + 1, 0, none⟩ (.string v)).cell? ⟨b, 0, none⟩ = W.cell? ⟨b, 0, none⟩ := fun b hb => World.cell?_setCell_other _ _ _ _ (fun e => hb (Addr.mk.inj e).1.symm)
      exact ⟨⟨kO.same _ _ h.loop rfl, kO.same _ _ h.defer rfl, ⟨(ko _ (by omega)).trans h.box.sep, (ko _ (by omega)).trans h.box.save, (World.frozen?_setCell _ _ _ _).trans h.box.free⟩, (ko _ (by omega)).trans h.cell, (World.frozen?_setCell _ _ _ _).trans h.free, h.below.setCell (p := ⟨w.heap.size + 1, 0, none⟩) (by simp) _⟩, _, World.cell?_setCell_same W _ _ hu⟩
    case hJc => exact fun W h => h.1.box
    case hY =>
      rintro x W ⟨h, u, hu⟩
      have hy := run_yield (P := Tryd.prog) (args := #[.string x]) h.loop (by rw [hrec]; rfl)
      have hne : W0.heap.size + 1 ≠ W0.heap.size := by omega
      have hbusy := h.put (lp' := { rec .ready none with state := .busy }) hne (by omega) ⟨u, hu⟩
      have hcS := cell_put (.loop { rec .ready none with state := .busy }) h.loop rfl _ _ hu
      have hbr := run_beginRound (P := Tryd.prog) h.loop (by rw [hrec])
      obtain ⟨W2, hW2⟩ : ∃ W2, W.putObj (W0.heap.size + 1) (.loop { rec .ready none with state := .busy }) = W2 := ⟨_, rfl⟩
      rw [hW2] at hbusy hcS hbr
      rw [hrec] at hy
      refine ⟨fn, _, assign, body, hy, roundIn_of_wpIn hfn (hassign _ x W _ ⟨_, hbr, wpIn_mono (hbody _ x W2 hbusy.cell hbusy.free) ?_⟩)⟩
      rintro e a3 W3 hp
      cases e with
      | normal =>
        obtain ⟨hd, rfl⟩ := hp
        have her := run_endRound (P := Tryd.prog) none hbusy.loop
        refine ⟨_, _, her, .inl ⟨hd, rfl, ⟨?_, u, cell_put _ hbusy.loop rfl _ _ hcS⟩, ?_⟩⟩
        · have := hbusy.put (lp' := rec .ready none) hne (by omega) ⟨u, hcS⟩
          rw [hrec] at this ⊢
          exact this
        · rw [cell_put _ hbusy.loop rfl _ _ hcS, hu]
      | ret =>
        obtain ⟨hd, rfl⟩ := hp
        have kO := KeepsOthers.setCell W2 ⟨w.heap.size, 0, none⟩ (.bool true)
        have hl3 := kO.same _ _ hbusy.loop rfl
        have hk3 := kO.same _ _ hbusy.defer rfl
        have ko : ∀ b, b ≠ w.heap.size → (W2.setCell ⟨w.heap.size, 0, none⟩ (.bool true)).cell? ⟨b, 0, none⟩ = W2.cell? ⟨b, 0, none⟩ := fun b hb => World.cell?_setCell_other _ _ _ _ (fun e => hb (Addr.mk.inj e).1.symm)
        have hm : Mid w (w.heap.size + 1) (w.heap.size + 1 + 1) (w.heap.size + 1 + 1 + 1) (W0.heap.size + 1) W0.heap.size { rec .ready none with state := .busy } true (W2.setCell ⟨w.heap.size, 0, none⟩ (.bool true)) :=
          ⟨hl3, hk3, ⟨(ko _ (by omega)).trans hbusy.box.sep, (ko _ (by omega)).trans hbusy.box.save, (World.frozen?_setCell _ _ _ _).trans hbusy.box.free⟩, World.cell?_setCell_same W2 _ _ hbusy.cell, (World.frozen?_setCell _ _ _ _).trans hbusy.free, hbusy.below.setCell (p := ⟨w.heap.size, 0, none⟩) (Nat.le_refl _) _⟩
        have her := run_endRound (P := Tryd.prog) (some .ret) hl3
        refine ⟨_, _, her, .inr ⟨hd, rfl, ?_⟩⟩
        have := hm.put (lp' := rec .done (some .ret)) hne (by omega) ⟨u, (ko _ (by omega)).trans hcS⟩
        rw [hrec] at this ⊢
        exact this
      | exit id => exact hp.elim
      | goto t => exact hp.elim
      | panic ch => exact hp.elim
      | outgrown => exact hp.elim
    · rintro e W2 ⟨⟨v, rfl⟩, (⟨hd, hm, u, hu⟩ | ⟨hd, hm⟩)⟩
      · have hel := run_endLoop (P := Tryd.prog) hm.loop (by rw [hrec]; simp)
        rw [show (rec .ready none).pending = none by rw [hrec]] at hel
        refine ⟨none, _, hel, hdone W0.heap.size _ (by omega) hd ((World.putObj_heap_other (by omega)).trans hm.defer) (cell_put _ hm.loop rfl _ _ hm.cell) ((frozen_put _ hm.loop rfl _ _ hm.cell).trans hm.free) ?_⟩
        exact hm.below.trans (belowK_b (w := w) (Nat.le_refl _) W2 _ _ _ (by omega) hm.loop rfl rfl)
      · have hel := run_endLoop (P := Tryd.prog) hm.loop (by rw [hrec]; simp)
        rw [show (rec .done (some .ret)).pending = some .ret by rw [hrec]] at hel
        refine ⟨some .ret, _, hel, hstop W0.heap.size _ (by omega) hd ((World.putObj_heap_other (by omega)).trans hm.defer) (cell_put _ hm.loop rfl _ _ hm.cell) ?_⟩
        exact hm.below.trans (belowK_b (w := w) (Nat.le_refl _) W2 _ _ _ (by omega) hm.loop rfl rfl)
set_option maxHeartbeats 4000000 in
set_option maxRecDepth 100000 in
theorem has16 (s : ByteArray) (w : World) (hs : (s.size : Int) ≤ 1048576) : Calls Tryd.prog 16 #[.string s] w fun e w' => e = .returned (.bool (holdsDot (L s))) ∧ Below w.heap.size w w' := by
  refine (callsIn_wide (n := 5)).1 ?_
  refine callsIn_of_wp_marks Tryd.func16 rfl trivial ?_ rfl
  simp only [Tryd.ntmps16, List.size_toArray, List.length_cons, List.length_nil, Nat.reduceAdd, Nat.reduceSub, Array.replicate_succ, Array.replicate_zero, List.push_toArray, List.append_toArray, List.nil_append, List.cons_append]
  gi_wp2_with fail
  refine ⟨trivial, (callsIn_wide.2 (seq19 s _)).mono ?_⟩
  rintro e w1 ⟨rfl, rfl⟩
  gi_wp2_with fail
  obtain ⟨W0, hW0⟩ : ∃ W0, (((w.alloc (.cells #[.bool false] 4)).alloc (.cells #[.string s] 9)).alloc (.cells #[.string ⟨#[47]⟩] 9)).alloc (.cells #[.int .i64 0] 3) = W0 := ⟨_, rfl⟩
  rw [hW0]
  have hsz : W0.heap.size = w.heap.size + 4 := by rw [← hW0]; simp
  have cR : W0.cell? ⟨w.heap.size, 0, none⟩ = some (.bool false) := by
    rw [← hW0, World.cell?_alloc_past _ _ _ (by simp; omega), World.cell?_alloc_past _ _ _ (by simp; omega), World.cell?_alloc_past _ _ _ (by simp), World.cell?_alloc_at _ _ _ _ rfl]; rfl
  have fR : W0.frozen? ⟨w.heap.size, 0, none⟩ = false := by
    rw [← hW0, World.frozen?_alloc_past _ _ _ (by simp; omega), World.frozen?_alloc_past _ _ _ (by simp; omega), World.frozen?_alloc_past _ _ _ (by simp), World.frozen?_alloc_at _ _ _ _ rfl]
  have cS : W0.cell? ⟨w.heap.size + 1, 0, none⟩ = some (.string s) := by
    rw [← hW0, World.cell?_alloc_past _ _ _ (by simp), World.cell?_alloc_past _ _ _ (by simp), World.cell?_alloc_at _ _ _ _ (by simp)]; rfl
  have fS : W0.frozen? ⟨w.heap.size + 1, 0, none⟩ = false := by
    rw [← hW0, World.frozen?_alloc_past _ _ _ (by simp), World.frozen?_alloc_past _ _ _ (by simp), World.frozen?_alloc_at _ _ _ _ (by simp)]
  have cP : W0.cell? ⟨w.heap.size + 1 + 1, 0, none⟩ = some (.string ⟨#[47]⟩) := by
    rw [← hW0, World.cell?_alloc_past _ _ _ (by simp), World.cell?_alloc_at _ _ _ _ (by simp)]; rfl
  have cV : W0.cell? ⟨w.heap.size + 1 + 1 + 1, 0, none⟩ = some (.int .i64 0) := by
    rw [← hW0, World.cell?_alloc_at _ _ _ _ (by simp)]; rfl
  have hB0 : Below w.heap.size w W0 := by
    rw [← hW0]
    exact ((((Below.refl _ w).alloc (Nat.le_refl _) _).alloc (by simp) _).alloc (by simp; omega) _).alloc (by simp; omega) _
  clear hW0
  refine range_split w W0 s hs rfl hsz cR fR cS fS cP cV hB0 (fun x => { tmps := #[.string s, undef, .pointer (some ⟨w.heap.size, 0, none⟩), .string x, .string s, .func (.func 33) #[] #[.pointer (some ⟨w.heap.size + 1 + 1, 0, none⟩), .pointer (some ⟨w.heap.size + 1, 0, none⟩), .pointer (some ⟨w.heap.size + 1 + 1 + 1, 0, none⟩)], .string x, undef, undef, undef, undef, undef, undef], defers := [] }) ?assign ?body ?done ?stop
  case assign =>
    intro l x W K hK
    gi_wp2
    exact hK
  case body =>
    intro l x W hc hf
    gi_wp2
    · rename_i hx
      refine ⟨?_, rfl⟩
      unfold isDot
      rw [← tl_L, hx]
      rfl
    · rename_i hx
      refine ⟨?_, rfl⟩
      unfold isDot
      rw [← tl_L]
      simpa using hx
    · rename_i hx
      refine ⟨?_, rfl⟩
      unfold isDot
      rw [← tl_L]
      simpa using hx
  case done =>
    rintro D W hD hd hK hc hf hB
    gi_wp2
    have hK' := (KeepsOthers.setCell W ⟨w.heap.size, 0, none⟩ (.bool false)).same D _ hK rfl
    refine ⟨by simp, .inl ⟨_, _, rfl, run_takeDeferred hK', ?_⟩⟩
    have hc5 := cell_kept (World.cell?_setCell_same' W ⟨w.heap.size, 0, none⟩ (.bool false) (by rw [hc]; rfl)) (grownBy_putObj' _ D (.deferred none)) (fun r e => by cases e; exact ⟨_, hK', rfl⟩)
    refine ⟨.bool false, ?_, by rw [hd], (hB.setCell (p := ⟨w.heap.size, 0, none⟩) (Nat.le_refl _) _).trans (belowK_b (w := w) (Nat.le_refl _) _ D _ _ (by omega) hK' rfl rfl)⟩
    simp [results, Tryd.f16, go_sem, hc5]
  case stop =>
    rintro D W hD hd hK hc hB
    gi_wp2
    refine ⟨by simp, .inl ⟨_, _, rfl, run_takeDeferred hK, ?_⟩⟩
    have hc5 := cell_kept hc (grownBy_putObj' _ D (.deferred none)) (fun r e => by cases e; exact ⟨_, hK, rfl⟩)
    refine ⟨.bool true, ?_, by rw [hd], hB.trans (belowK_b (w := w) (Nat.le_refl _) W D _ _ (by omega) hK rfl rfl)⟩
    simp [results, Tryd.f16, go_sem, hc5]
end Go.Proofs.Qxb6614616aDoor
