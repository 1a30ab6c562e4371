/- THE CALLER's LOOP 'for h := range m.busyHeads() { .. }': one law: an invariant, one walk of the body. -/
import Derived.Test.YbulkcmsyHeads
namespace Go.Proofs.Ybulkcmsy
open Go.RowKit Go.Shelf

/-- WHAT THE CALLER's INVARIANT ABIDES. B: the heap's size where the loop begins. -/
structure Mine (w0 : World) (B : Nat) (I : List Nat → World → Prop) : Prop where
  cell : ∀ pre W b c fr v, I pre W → w0.heap.size < b → W.heap[b]? = some (.cells c 4 fr) → I pre (W.setCell ⟨b, 0, none⟩ v)
  put : ∀ pre W k o o', I pre W → B ≤ k → W.heap[k]? = some o → o.isCells = false → I pre (W.putObj k o')

/-- HOW THE BODY OF A ROUND MAY BE LEFT: off its end, or by a break. -/
def busyPost (w0 : World) (I : List Nat → World → Prop) (Ix : Code → List Nat → World → Prop) (xs : List Nat) (W : World) : Exit → Act → World → Prop
  | .normal, _, W' => KeepsOthers W W' ∧ Kept w0.heap.size W W' ∧ I xs W'
  | .exit id, _, W' => KeepsOthers W W' ∧ Kept w0.heap.size W W' ∧ Ix (.exit id) xs W'
  | _, _, _ => False

/-- A post that no panic meets: for a function that bears a mark (the tactics on regions that draw want a panic's post to look at no frame). -/
def calmPost (Q : Exit → Act → World → Prop) : Exit → Act → World → Prop
  | .panic _, _, _ => False
  | .outgrown, _, _ => False
  | .normal, a, w => Q .normal a w
  | .ret, a, w => Q .ret a w
  | .exit i, a, w => Q (.exit i) a w
  | .goto t, a, w => Q (.goto t) a w

theorem calm_le {Q : Exit → Act → World → Prop} : ∀ (e : Exit) (a : Act) (w : World), calmPost Q e a w → Q e a w
  | .panic _, _, _, h => h.elim
  | .outgrown, _, _, h => h.elim
  | .normal, _, _, h => h
  | .ret, _, _, h => h
  | .exit _, _, _, h => h
  | .goto _, _, _, h => h

theorem Kept.putObj {G : Nat} {W : World} {k : Nat} {o : Obj} (o' : Obj) (hk : W.heap[k]? = some o) (ho : o.isCells = false) : Kept G W (W.putObj k o') :=
  ⟨by simp, fun b c t fr _ _ hb => by
    by_cases e : b = k
    · subst e; rw [hk] at hb; cases hb; cases ho
    · exact (World.putObj_heap_other e).trans hb⟩

theorem heap_of_setCell {W : World} {k b : Nat} {o : Obj} {v : Value} {c : Array Value} {t : TypeId} {fr : Nat × Nat} (hk : W.heap[k]? = some o) (ho : o.isCells = false) (hb : W.heap[b]? = some (.cells c t fr)) :
    (W.setCell ⟨b, 0, none⟩ v).heap[k]? = some o := by
  refine (Below.heap_setCell W ⟨b, 0, none⟩ v k ?_).trans hk
  rintro rfl
  rw [hk] at hb; cases hb; cases ho

theorem wpIn_range_busy {g : Operand} {ps : Array Tmp} {assign body : Code} {Q : Exit → Act → World → Prop} {a : Act} {w : World} {mb : Nat} (w0 : World) (S : List Nat)
    (hg : a.eval g = .func (.func 8) #[] #[.pointer (some ⟨mb, 0, none⟩)]) (hps : ps.size = 1)
    (hseq : ∀ (l : Nat) (J Jx : List Nat → World → Prop) (W : World), Body w0 l J Jx → J [] W → Below w.heap.size w W →
      CallsIn Fence.wide 0 Yba.prog 8 #[.func (.yield l) #[] #[], .pointer (some ⟨mb, 0, none⟩)] W fun e W' => (∃ v, e = .returned v) ∧ (J S W' ∨ ∃ q x, (q ++ [x]) <+: S ∧ Jx (q ++ [x]) W'))
    (I : List Nat → World → Prop) (Ix : Code → List Nat → World → Prop) (hI : Mine w0 w.heap.size I) (hIx : ∀ c, Mine w0 w.heap.size (Ix c))
    (hfresh : ∀ pre W W', I pre W → Below W.heap.size W W' → I pre W') (hmem : ∀ pre W, I pre W → Below w0.heap.size w0 W) (h0 : I [] w) (a₁ : Nat → Act)
    (hassign : ∀ (l x : Nat) (W : World) (K : Act → World → Prop), K (a₁ x) W →
      assign.wpIn (Fence.wide.inRound l) 0 Yba.prog (Exit.then K (fun _ _ _ => False)) { tmps := (ps.zip #[.pointer (some ⟨x, 0, none⟩)]).foldl (fun t (p, v) => t.setIfInBounds p v) a.tmps, defers := [] } W)
    (hbody : ∀ (l : Nat) (pre : List Nat) (x : Nat) (W : World), I pre W → body.wpIn (Fence.wide.inRound l) 0 Yba.prog (busyPost w0 I Ix (pre ++ [x]) W) (a₁ x) W)
    (hdone : ∀ (D : Nat) (W : World), w.heap.size ≤ D → I S W → W.heap[D]? = some (.deferred (some [])) → Q .normal { a with defers := { target := .collected D, args := #[] } :: a.defers } W)
    (hstop : ∀ (D : Nat) (c : Code) (q : List Nat) (x : Nat) (W : World), w.heap.size ≤ D → (q ++ [x]) <+: S → Ix c (q ++ [x]) W → W.heap[D]? = some (.deferred (some [])) →
      c.wpIn Fence.wide 0 Yba.prog Q { a with defers := { target := .collected D, args := #[] } :: a.defers } W) :
    (Code.rangeFunc g ps assign body).wpIn Fence.wide 0 Yba.prog Q a w := by
  refine wpIn_rangeFunc ?_
  intro fn hfn
  rw [show Fence.wide.round = none from rfl]
  obtain ⟨rec, hrec⟩ : ∃ rec : LoopState → Option Code → Loop, rec = fun st pe => { state := st, pending := pe, fn, tmps := a.tmps, params := ps, assign, body, defers := w.heap.size } := ⟨_, rfl⟩
  obtain ⟨W1, hW1⟩ : ∃ W1, (w.alloc (.deferred (some []))).alloc (.loop (rec .ready none)) = W1 := ⟨_, rfl⟩
  have hL1 : W1.heap[w.heap.size + 1]? = some (.loop (rec .ready none)) := by
    rw [← hW1]; have := World.alloc_heap_new (w.alloc (.deferred (some []))) (.loop (rec .ready none)); rwa [World.size_alloc] at this
  have hK1 : W1.heap[w.heap.size]? = some (.deferred (some [])) := by
    rw [← hW1]; exact (Below.heap_alloc _ _ _ (by simp)).trans (World.alloc_heap_new w _)
  have hb1 : Below w.heap.size w W1 := by
    rw [← hW1]; exact ((Below.refl _ w).alloc (Nat.le_refl _) _).alloc (by simp) _
  have hI1 : I [] W1 := hfresh _ _ _ h0 hb1
  have eg := enters_of Yba.func8 (by kernel_rfl) rfl
  refine ⟨w.heap.size + 1, [{ target := .collected w.heap.size, args := #[] }], W1, { target := .fn (.func 8) #[.pointer (some ⟨mb, 0, none⟩)], args := #[.func (.yield (w.heap.size + 1)) #[] #[]] }, W1, 8,
    #[.func (.yield (w.heap.size + 1)) #[] #[], .pointer (some ⟨mb, 0, none⟩)], W1, ?_, ?_, ?_, ?_, (fun h => by cases h), ?_⟩
  · rw [← hW1, hrec]; exact run_enterLoop_outer _ _ _ _ _
  · simp only [resolve, hg]
    simp [go_sem]
  · intro f' hf'; trivial
  · simp [invoke, go_sem, eg _ _]
  · refine (hseq (w.heap.size + 1)
      (fun pre W => I pre W ∧ W.heap[w.heap.size + 1]? = some (.loop (rec .ready none)) ∧ W.heap[w.heap.size]? = some (.deferred (some [])))
      (fun pre W => ∃ c, Ix c pre W ∧ W.heap[w.heap.size + 1]? = some (.loop (rec .done (some c))) ∧ W.heap[w.heap.size]? = some (.deferred (some [])))
      W1 ⟨?_, ?_, ?_, ?_, ?_⟩ ⟨hI1, hL1, hK1⟩ hb1).mono ?_
    · rintro pre W W' ⟨hi, hl, hk⟩ hb
      exact ⟨hfresh _ _ _ hi hb, (hb.block _ (Array.getElem?_eq_some_iff.1 hl).1).trans hl, (hb.block _ (Array.getElem?_eq_some_iff.1 hk).1).trans hk⟩
    · exact fun pre W h => hmem pre W h.1
    · rintro pre W b c fr v ⟨hi, hl, hk⟩ hG hb
      exact ⟨hI.cell _ _ _ _ _ _ hi hG hb, heap_of_setCell hl rfl hb, heap_of_setCell hk rfl hb⟩
    · rintro pre W b c fr v ⟨j, hi, hl, hk⟩ hG hb
      exact ⟨j, (hIx j).cell _ _ _ _ _ _ hi hG hb, heap_of_setCell hl rfl hb, heap_of_setCell hk rfl hb⟩
    · -- ONE ROUND
      rintro pre x W ⟨hi, hl, hk⟩
      have hlt : w.heap.size + 1 < W.heap.size := (Array.getElem?_eq_some_iff.1 hl).1
      have hy := run_yield (P := Yba.prog) (args := #[.pointer (some ⟨x, 0, none⟩)]) hl (by rw [hrec]; simp [hps])
      rw [hrec] at hy
      refine ⟨fn, _, assign, body, hy, roundIn_of_wpIn hfn (hassign _ x W _ ⟨_, run_beginRound hl (by rw [hrec]), ?_⟩)⟩
      have hl2 : (W.putObj (w.heap.size + 1) (.loop { rec .ready none with state := .busy })).heap[w.heap.size + 1]? = some (.loop { rec .ready none with state := .busy }) := World.putObj_heap_same hlt
      have hk2 : (W.putObj (w.heap.size + 1) (.loop { rec .ready none with state := .busy })).heap[w.heap.size]? = some (.deferred (some [])) := (World.putObj_heap_other (by omega)).trans hk
      refine wpIn_mono (hbody _ pre x _ (hI.put _ _ _ _ _ hi (by omega) hl rfl)) ?_
      have fin : ∀ (jump : Option Code) (W3 : World), KeepsOthers (W.putObj (w.heap.size + 1) (.loop { rec .ready none with state := .busy })) W3 →
          (Instr.endRound (w.heap.size + 1) jump).run Yba.prog W3 = .ok (.bool jump.isNone) (W3.putObj (w.heap.size + 1) (.loop (rec (if jump.isNone then .ready else .done) jump))) ∧
          W3.heap[w.heap.size + 1]? = some (.loop { rec .ready none with state := .busy }) ∧
          (W3.putObj (w.heap.size + 1) (.loop (rec (if jump.isNone then .ready else .done) jump))).heap[w.heap.size + 1]? = some (.loop (rec (if jump.isNone then .ready else .done) jump)) ∧
          (W3.putObj (w.heap.size + 1) (.loop (rec (if jump.isNone then .ready else .done) jump))).heap[w.heap.size]? = some (.deferred (some [])) := fun jump W3 hk3 => by
        have hl3 := hk3.same _ _ hl2 rfl
        have := run_endRound (P := Yba.prog) jump hl3
        rw [hrec] at this ⊢
        exact ⟨this, by rw [hrec] at hl3; exact hl3, World.putObj_heap_same (Array.getElem?_eq_some_iff.1 hl3).1, (World.putObj_heap_other (by omega)).trans (hk3.same _ _ hk2 rfl)⟩
      rintro e a3 W3 hp
      cases e with
      | normal =>
        obtain ⟨hk3, hkp, hi3⟩ := hp
        obtain ⟨hr, hl3, hl4, hk4⟩ := fin none W3 hk3
        exact ⟨_, _, hr, ((Kept.putObj _ hl rfl).trans hkp).trans (Kept.putObj _ hl3 rfl), .inl ⟨rfl, hI.put _ _ _ _ _ hi3 (by omega) hl3 rfl, hl4, hk4⟩⟩
      | exit id =>
        obtain ⟨hk3, hkp, hi3⟩ := hp
        obtain ⟨hr, hl3, hl4, hk4⟩ := fin (some (.exit id)) W3 hk3
        exact ⟨_, _, hr, ((Kept.putObj _ hl rfl).trans hkp).trans (Kept.putObj _ hl3 rfl), .inr ⟨rfl, .exit id, (hIx _).put _ _ _ _ _ hi3 (by omega) hl3 rfl, hl4, hk4⟩⟩
      | ret => exact hp.elim
      | goto t => exact hp.elim
      | panic ch => exact hp.elim
      | outgrown => exact hp.elim
    · -- BEHIND THE ITERATOR
      rintro e W2 ⟨⟨v, rfl⟩, (⟨hi, hl, hk⟩ | ⟨q, x, hq, c, hi, hl, hk⟩)⟩
      · exact ⟨none, _, by have := run_endLoop (P := Yba.prog) hl (by rw [hrec]; simp); rw [hrec] at this; exact this, hdone _ _ (Nat.le_refl _) (hI.put _ _ _ _ _ hi (by omega) hl rfl) ((World.putObj_heap_other (by omega)).trans hk)⟩
      · exact ⟨some c, _, by have := run_endLoop (P := Yba.prog) hl (by rw [hrec]; simp); rw [hrec] at this; exact this, hstop _ c q x _ (Nat.le_refl _) hq ((hIx c).put _ _ _ _ _ hi (by omega) hl rfl) ((World.putObj_heap_other (by omega)).trans hk)⟩
end Go.Proofs.Ybulkcmsy
