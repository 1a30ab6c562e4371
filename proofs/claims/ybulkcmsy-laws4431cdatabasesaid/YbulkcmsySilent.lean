/- A RANGE OVER A FUNCTION THAT YIELDS NOTHING: the loop's record and the block for the rounds' deferred calls are laid, the iterator runs and makes at most new memory, the walk goes on behind the statement. -/
import Derived.RangeFuncNested
import Derived.RangeFuncBound
import Derived.RangeFuncCalls
import Derived.RangeFuncLeaves
import Derived.WalkKit
import Derived.OwnWalkIn
namespace Go
open Go.RowKit

variable {F : Fence} {n : Nat} {P : Program}

theorem wpIn_rangeFunc_silent {g : Operand} {ps : Array Tmp} {assign body : Code} {Q : Exit → Act → World → Prop} {a : Act} {w : World}
    (hro : F.round = none) (h1 : F.depth.isSome = true → 1 ≤ n) {gf : Nat} {fs lb : Array Value} (hg : a.eval g = .func (.func gf) fs lb) (hFg : F.fn gf) (eg : ∀ args w, (callFunc gf args).run P w = .ok (.enter gf args) w)
    (hseq : ∀ (l : Nat) (W : World), Below w.heap.size w W → CallsIn F (n - 1) P gf (fs ++ #[.func (.yield l) #[] #[]] ++ lb) W fun e W' => (∃ v, e = .returned v) ∧ Below W.heap.size W W')
    (hdone : ∀ (D : Nat) (W : World), w.heap.size ≤ D → Below w.heap.size w W → W.heap[D]? = some (.deferred (some [])) → Q .normal { a with defers := { target := .collected D, args := #[] } :: a.defers } W) :
    (Code.rangeFunc g ps assign body).wpIn F n P Q a w := by
  refine wpIn_rangeFunc ?_
  intro fn hfn
  rw [hro]
  obtain ⟨rec, hrec⟩ : ∃ rec : LoopState → Option Code → Loop, rec = fun st pe => { state := st, pending := pe, fn, tmps := a.tmps, params := ps, assign, body, defers := w.heap.size } := ⟨_, rfl⟩
  obtain ⟨W1, hW1⟩ : ∃ W1, (w.alloc (.deferred (some []))).alloc (.loop (rec .ready none)) = W1 := ⟨_, rfl⟩
  have hL1 : W1.heap[w.heap.size + 1]? = some (.loop (rec .ready none)) := by
    rw [← hW1]; have := World.alloc_heap_new (w.alloc (.deferred (some []))) (.loop (rec .ready none)); rwa [World.size_alloc] at this
  have hK1 : W1.heap[w.heap.size]? = some (.deferred (some [])) := by
    rw [← hW1]; exact (Below.heap_alloc _ _ _ (by simp)).trans (World.alloc_heap_new w _)
  have hb1 : Below w.heap.size w W1 := by
    rw [← hW1]; exact ((Below.refl _ w).alloc (Nat.le_refl _) _).alloc (by simp) _
  refine ⟨w.heap.size + 1, [{ target := .collected w.heap.size, args := #[] }], W1, { target := .fn (.func gf) lb, args := fs ++ #[.func (.yield (w.heap.size + 1)) #[] #[]] }, W1, gf,
    fs ++ #[.func (.yield (w.heap.size + 1)) #[] #[]] ++ lb, W1, ?_, ?_, ?_, ?_, h1, ?_⟩
  · rw [← hW1, hrec]; exact run_enterLoop_outer _ _ _ _ _
  · simp only [resolve, hg]
    simp [go_sem]
  · intro f' hf'; simp [Target.leads] at hf'; subst hf'; exact hFg
  · simp [invoke, go_sem, eg]
  · have hlt : w.heap.size + 1 < W1.heap.size := (Array.getElem?_eq_some_iff.1 hL1).1
    refine (hseq (w.heap.size + 1) W1 hb1).mono ?_
    rintro e W2 ⟨⟨v, rfl⟩, hb2⟩
    have hL2 : W2.heap[w.heap.size + 1]? = some (.loop (rec .ready none)) := (hb2.block _ hlt).trans hL1
    have hK2 : W2.heap[w.heap.size]? = some (.deferred (some [])) := (hb2.block _ (by omega)).trans hK1
    refine ⟨none, _, by have := run_endLoop (P := P) hL2 (by rw [hrec]; simp); rw [hrec] at this; exact this, ?_⟩
    refine hdone _ _ (Nat.le_refl _) ?_ ((World.putObj_heap_other (by omega)).trans hK2)
    have hb : Below w.heap.size w W2 := hb1.trans (hb2.mono (by omega))
    exact ⟨hb.os, hb.tape, hb.output, by simpa using hb.size, fun k hk => (World.putObj_heap_other (by omega)).trans (hb.block k hk)⟩

/-- AT THE FUNCTION's END, a mark among its deferred calls whose block holds none: the block is shut. -/
theorem below_putObj {B : Nat} {w W : World} (hb : Below B w W) {D : Nat} (hD : B ≤ D) (o : Obj) : Below B w (W.putObj D o) :=
  ⟨hb.os, hb.tape, hb.output, by simpa using hb.size, fun k hk => (World.putObj_heap_other (by omega)).trans (hb.block k hk)⟩
end Go
