/- The loop of LawS4431CYields over m.busyHeads(). -/
import Derived.Test.YbulkcmsyLoop
import Derived.Test.YbulkcmsyState2
import Derived.Test.YbulkcmsyMgr
import Derived.RangeFuncBox
import Derived.OwnWalkIn
namespace Go.Proofs.Ybulkcmsy
open Go.RowKit Go.Shelf

theorem own_below {W W' : World} {base : Nat} {e : TypeId} {v : Value} {m : Nat} {xs : List Value} (h : W.ownsRow base e 1 v m xs) (hb : Below W.heap.size W W') : W'.ownsRow base e 1 v m xs :=
  h.kept (grownBy_of_below hb (some W.heap.size)) (by
    rcases hv : v.ownBlock with _ | g
    · exact .inl rfl
    · have := (h.lt g hv).2; right; simp; omega)

/-- 'break' out of the loop, or its end: one place behind it. -/
theorem wp_range_brk {g : Operand} {ps : Array Tmp} {assign body : Code} {id : Nat} {K : Act → World → Prop} {Q' : Exit → Act → World → Prop} {a : Act} {w : World} {mb : Nat} (w0 : World) (S : List Nat)
    (hg : a.eval g = .func (.func 8) #[] #[.pointer (some ⟨mb, 0, none⟩)]) (hps : ps.size = 1)
    (hseq : ∀ (l : Nat) (J Jx : List Nat → World → Prop) (W : World), Body w0 l J Jx → J [] W → Below w.heap.size w W →
      CallsIn Fence.wide 0 Yba.prog 8 #[.func (.yield l) #[] #[], .pointer (some ⟨mb, 0, none⟩)] W fun e W' => (∃ v, e = .returned v) ∧ (J S W' ∨ ∃ q x, (q ++ [x]) <+: S ∧ Jx (q ++ [x]) W'))
    (I : List Nat → World → Prop) (hI : Mine w0 w.heap.size I) (Lim : List Nat → Prop)
    (hfresh : ∀ pre W W', I pre W → Below W.heap.size W W' → I pre W') (hmem : ∀ pre W, I pre W → Below w0.heap.size w0 W) (h0 : I [] w) (p0 q0 : Nat)
    (hassign : ∀ (l x : Nat) (W : World) (K : Act → World → Prop), K { tmps := (a.tmps.setIfInBounds p0 (.pointer (some ⟨x, 0, none⟩))).setIfInBounds q0 (.pointer (some ⟨x, 0, none⟩)), defers := [] } W →
      assign.wpIn (Fence.wide.inRound l) 0 Yba.prog (Exit.then K (fun _ _ _ => False)) { tmps := (ps.zip #[.pointer (some ⟨x, 0, none⟩)]).foldl (fun t (p, v) => t.setIfInBounds p v) a.tmps, defers := [] } W)
    (hbody : ∀ (l : Nat) (pre : List Nat) (x : Nat) (W : World), I pre W → body.wpIn (Fence.wide.inRound l) 0 Yba.prog (busyPost w0 I (fun c xs W => c = .exit id ∧ ∃ q y, xs = q ++ [y] ∧ Lim q ∧ I q W) (pre ++ [x]) W) { tmps := (a.tmps.setIfInBounds p0 (.pointer (some ⟨x, 0, none⟩))).setIfInBounds q0 (.pointer (some ⟨x, 0, none⟩)), defers := [] } W)
    (hend : ∀ (D : Nat) (W : World), w.heap.size ≤ D → (I S W ∨ ∃ q, q <+: S ∧ Lim q ∧ I q W) → W.heap[D]? = some (.deferred (some [])) → K { a with defers := { target := .collected D, args := #[] } :: a.defers } W) :
    (Code.rangeFunc g ps assign body).wp Yba.prog (Exit.inBlock id (Exit.then K Q')) a w := by
  refine (wpIn_wide (n := 0)).1 ?_
  refine wpIn_range_busy w0 S hg hps hseq I (fun c xs W => c = .exit id ∧ ∃ q y, xs = q ++ [y] ∧ Lim q ∧ I q W) hI ?_ hfresh hmem h0 _ hassign hbody ?_ ?_
  · refine fun c => ⟨?_, ?_⟩
    · rintro pre W b c' fr v ⟨hc, q, y, e, hl, hi⟩ hb hh
      exact ⟨hc, q, y, e, hl, hI.cell _ _ _ _ _ _ hi hb hh⟩
    · rintro pre W k o o' ⟨hc, q, y, e, hl, hi⟩ hk hh ho
      exact ⟨hc, q, y, e, hl, hI.put _ _ _ _ _ hi hk hh ho⟩
  · intro D W hD hi hK
    exact hend D W hD (.inl hi) hK
  · rintro D c q x W hD hq ⟨rfl, q', y, e, hl, hi⟩ hK
    obtain ⟨rfl, _⟩ := List.append_inj' e rfl
    have := hend D W hD (.inr ⟨q, (List.prefix_append q [x]).trans hq, hl, hi⟩) hK
    exact wpIn_exit (by unfold Exit.inBlock; simp only [if_true]; exact this)

/-- 'got' BETWEEN TWO ROUNDS. -/
def Got (w0 : World) (lim : Nat) (pre : List Nat) (W : World) : Prop :=
  (∃ v, Boxed W w0.heap.size 43 v ∧ W.ownsRow w0.heap.size 24 1 v pre.length (pre.map ptr)) ∧ Below w0.heap.size w0 W ∧ pre.length ≤ lim

theorem own_ne_of {W : World} {base : Nat} {e : TypeId} {v : Value} {m : Nat} {xs : List Value} (h : W.ownsRow base e 1 v m xs) {k : Nat} (hk : ∀ c fr, W.heap[k]? ≠ some (.cells c e fr)) : v.ownBlock = none ∨ v.ownBlock ≠ some k := by
  rcases h.2 with ⟨rfl, _⟩ | ⟨g, cap, cur, rfl, _, hgb, _⟩
  · exact .inl rfl
  · right
    intro e'
    obtain rfl : g = k := by simpa [Value.ownBlock] using e'
    exact hk _ _ hgb

theorem got_mine (w0 : World) (lim : Nat) {B : Nat} (hB : w0.heap.size < B) : Mine w0 B (Got w0 lim) := by
  refine ⟨?_, ?_⟩
  · rintro pre W b c fr v ⟨⟨u, hu, hr⟩, hb, hl⟩ hG hh
    refine ⟨⟨u, hu.kept (grownBy_setCell' W b v) (by simp; omega), hr.kept (grownBy_setCell' W b v) (own_ne_of hr fun c' fr' e => by rw [hh] at e; cases e)⟩, hb.setCell (p := ⟨b, 0, none⟩) (Nat.le_of_lt hG) v, hl⟩
  · rintro pre W k o o' ⟨⟨u, hu, hr⟩, hb, hl⟩ hk hh ho
    refine ⟨⟨u, hu.kept (grownBy_putObj' W k o') (by simp; omega), ownsRow_putObj hr o' hh ho⟩, below_putObj hb (by omega) o', hl⟩

theorem got_fresh (w0 : World) (lim : Nat) (pre : List Nat) (W W' : World) (h : Got w0 lim pre W) (hb : Below W.heap.size W W') : Got w0 lim pre W' := by
  obtain ⟨⟨u, hu, hr⟩, hb0, hl⟩ := h
  exact ⟨⟨u, (hb.block _ hu.lt).trans hu, own_below hr hb⟩, hb0.trans (hb.mono hb0.size), hl⟩

theorem kept_appended {W w1 : World} {G : Nat} {v v' : Value} {m : Nat} {xs : List Value} {tmp : Obj} (hrow : W.ownsRow G 24 1 v m xs) (hg : (W.alloc tmp).grownBy w1 v.ownBlock) : Kept G W (w1.setCell ⟨G, 0, none⟩ v') := by
  refine ⟨Nat.le_trans (Nat.le_trans (by simp) hg.size) (grownBy_setCell' w1 G v').size, fun b c t fr hb ht e => ?_⟩
  have lb := (Array.getElem?_eq_some_iff.1 e).1
  rw [Below.heap_setCell _ _ _ b (by simp; omega), hg.block b (by simp; omega) ?_, Below.heap_alloc _ _ _ lb]
  · exact e
  · rcases own_ne_of (k := b) hrow (fun c' fr' e' => by rw [e] at e'; cases e'; exact ht rfl) with h | h
    · rw [h]; simp
    · exact fun e' => h e'.symm
end Go.Proofs.Ybulkcmsy
