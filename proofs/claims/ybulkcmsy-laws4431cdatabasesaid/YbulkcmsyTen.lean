/- The closure 10 ('m.idle(h) || yield(h)') within a range over busyHeads, whatever the loop's body keeps. -/
import Derived.Test.YbulkcmsyHolders
namespace Go.Proofs.Ybulkcmsy
open Go.RowKit Go.Shelf
attribute [local go_sem] Oper.semAt_some

/-- WHAT EVERY STEP BETWEEN TWO ROUNDS AND EVERY ROUND KEEP OF THE ITERATOR's OWN BOXES: a block beyond G of cells that are no *lockHead. -/
structure Kept (G : Nat) (W W' : World) : Prop where
  size : W.heap.size ≤ W'.heap.size
  same : ∀ b c t fr, G < b → t ≠ 24 → W.heap[b]? = some (.cells c t fr) → W'.heap[b]? = some (.cells c t fr)

theorem Kept.refl (G : Nat) (W : World) : Kept G W W := ⟨Nat.le_refl _, fun _ _ _ _ _ _ h => h⟩
theorem Kept.trans {G : Nat} {A B C : World} (h : Kept G A B) (k : Kept G B C) : Kept G A C := ⟨Nat.le_trans h.size k.size, fun b c t fr hb ht e => k.same b c t fr hb ht (h.same b c t fr hb ht e)⟩
theorem Kept.of_below {G : Nat} {W W' : World} (h : Below W.heap.size W W') : Kept G W W' := ⟨h.size, fun b _ _ _ _ _ e => (h.block b (Array.getElem?_eq_some_iff.1 e).1).trans e⟩

/-- WHAT THE CALLER OF busyHeads BRINGS: J: between two rounds, 'pre' having come · Jx: a round has said 'no more'. w0: the world ahead of the box 'got'; l: the loop's record. -/
structure Body (w0 : World) (l : Nat) (J Jx : List Nat → World → Prop) : Prop where
  fresh : ∀ pre W W', J pre W → Below W.heap.size W W' → J pre W'
  mem : ∀ pre W, J pre W → Below w0.heap.size w0 W
  cellJ : ∀ pre W b c fr v, J pre W → w0.heap.size < b → W.heap[b]? = some (.cells c 4 fr) → J pre (W.setCell ⟨b, 0, none⟩ v)
  cellX : ∀ pre W b c fr v, Jx pre W → w0.heap.size < b → W.heap[b]? = some (.cells c 4 fr) → Jx pre (W.setCell ⟨b, 0, none⟩ v)
  round : ∀ pre x W, J pre W → YieldAt Fence.wide 0 Yba.prog l #[.pointer (some ⟨x, 0, none⟩)] W fun e W' =>
    Kept w0.heap.size W W' ∧ ((e = .returned (.bool true) ∧ J (pre ++ [x]) W') ∨ (e = .returned (.bool false) ∧ Jx (pre ++ [x]) W'))

/-- The entries that are busy, of those that were come to. -/
def came (x : Nat) (t : Option Addr) : List Nat := if t.isSome then [x] else []

theorem cell_of_cells {W : World} {b : Nat} {v : Value} {t : TypeId} (h : W.heap[b]? = some (.cells #[v] t (0, 0))) : W.cell? ⟨b, 0, none⟩ = some v := by simp [World.cell?, h]
theorem frozen_of_cells {W : World} {b : Nat} {v : Value} {t : TypeId} (h : W.heap[b]? = some (.cells #[v] t (0, 0))) : W.frozen? ⟨b, 0, none⟩ = false := by simp [World.frozen?, h]

set_option maxHeartbeats 1600000 in
theorem ten_free {w0 : World} {l : Nat} {J Jx : List Nat → World → Prop} (hB : Body w0 l J Jx) (pre : List Nat) (x M mb yb : Nat) (mo : Option Nat) (W : World) (hJ : J pre W) (hH : Head w0 x none mo)
    (hm : W.heap[mb]? = some (.cells #[.pointer (some ⟨M, 0, none⟩)] 46 (0, 0))) :
    CallsIn Fence.wide 0 Yba.prog 10 #[.pointer (some ⟨x, 0, none⟩), .pointer (some ⟨mb, 0, none⟩), .pointer (some ⟨yb, 0, none⟩)] W fun e W' => Kept w0.heap.size W W' ∧ e = .returned (.bool true) ∧ J pre W' := by
  have hmc := cell_of_cells hm
  have hH1 := hH.below (hB.mem pre W hJ)
  have wf := wide_fn
  have wd := wide_depth
  clear hm
  refine callsIn_of_wp Yba.func10 rfl trivial ?_
  simp only [Yba.ntmps10, List.size_toArray, List.length_cons, List.length_nil, Nat.reduceAdd, Nat.reduceSub, Array.replicate_succ, Array.replicate_zero, List.push_toArray, List.append_toArray, List.nil_append, List.cons_append]
  gi_wp2_with (gi_at_call 11; refine (idle11_free x M mo W hH1).mono ?_; rintro e W1 ⟨rfl, hb1⟩)
  go_ret
  exact ⟨Kept.of_below hb1, rfl, hB.fresh pre W W1 hJ hb1⟩

set_option maxHeartbeats 1600000 in
theorem ten_busy {w0 : World} {l : Nat} {J Jx : List Nat → World → Prop} (hB : Body w0 l J Jx) (pre : List Nat) (x M mb yb : Nat) (t : Addr) (mo : Option Nat) (W : World) (hJ : J pre W) (hH : Head w0 x (some t) mo)
    (hm : W.heap[mb]? = some (.cells #[.pointer (some ⟨M, 0, none⟩)] 46 (0, 0))) (hy : W.heap[yb]? = some (.cells #[.func (.yield l) #[] #[]] 106 (0, 0))) :
    CallsIn Fence.wide 0 Yba.prog 10 #[.pointer (some ⟨x, 0, none⟩), .pointer (some ⟨mb, 0, none⟩), .pointer (some ⟨yb, 0, none⟩)] W fun e W' =>
      Kept w0.heap.size W W' ∧ ((e = .returned (.bool true) ∧ J (pre ++ [x]) W') ∨ (e = .returned (.bool false) ∧ Jx (pre ++ [x]) W')) := by
  have hmc := cell_of_cells hm
  have hyc := cell_of_cells hy
  have ly := World.block_lt_of_cell? W _ hyc
  have hH1 := hH.below (hB.mem pre W hJ)
  have wf := wide_fn
  have wd := wide_depth
  clear hm hy
  refine callsIn_of_wp Yba.func10 rfl trivial ?_
  simp only [Yba.ntmps10, List.size_toArray, List.length_cons, List.length_nil, Nat.reduceAdd, Nat.reduceSub, Array.replicate_succ, Array.replicate_zero, List.push_toArray, List.append_toArray, List.nil_append, List.cons_append]
  gi_wp2_with (gi_at_call 11; refine (callsIn_wide.2 (idle11_busy x M t mo W hH1)).mono ?_; rintro e W1 ⟨rfl, hb1⟩; have hyc1 := (hb1.cell (p := ⟨yb, 0, none⟩) ly).trans hyc; obtain ⟨fn, tmps, assign, body, hyr, hR⟩ := hB.round pre x W1 (hB.fresh pre W W1 hJ hb1); clear hyc)
  refine hR.mono ?_
  rintro e W2 ⟨hk, (⟨rfl, hJ2⟩ | ⟨rfl, hJ2⟩)⟩
  · gi_wp2
    go_ret
    exact ⟨(Kept.of_below hb1).trans hk, .inl ⟨rfl, hJ2⟩⟩
  · gi_wp2
    go_ret
    exact ⟨(Kept.of_below hb1).trans hk, .inr ⟨rfl, hJ2⟩⟩

/-- The closure 10 at whichever entry. -/
theorem ten {w0 : World} {l : Nat} {J Jx : List Nat → World → Prop} (hB : Body w0 l J Jx) (pre : List Nat) (x M mb yb : Nat) (t : Option Addr) (mo : Option Nat) (W : World) (hJ : J pre W) (hH : Head w0 x t mo)
    (hm : W.heap[mb]? = some (.cells #[.pointer (some ⟨M, 0, none⟩)] 46 (0, 0))) (hy : W.heap[yb]? = some (.cells #[.func (.yield l) #[] #[]] 106 (0, 0))) :
    CallsIn Fence.wide 0 Yba.prog 10 #[.pointer (some ⟨x, 0, none⟩), .pointer (some ⟨mb, 0, none⟩), .pointer (some ⟨yb, 0, none⟩)] W fun e W' =>
      Kept w0.heap.size W W' ∧ ((e = .returned (.bool true) ∧ J (pre ++ came x t) W') ∨ (e = .returned (.bool false) ∧ came x t = [x] ∧ Jx (pre ++ [x]) W')) := by
  cases t with
  | none =>
    refine (ten_free hB pre x M mb yb mo W hJ hH hm).mono fun e W' ⟨h1, h2, h3⟩ => ⟨h1, .inl ⟨h2, ?_⟩⟩
    simpa [came] using h3
  | some t =>
    refine (ten_busy hB pre x M mb yb t mo W hJ hH hm hy).mono fun e W' ⟨h1, h2⟩ => ⟨h1, ?_⟩
    rcases h2 with ⟨h2, h3⟩ | ⟨h2, h3⟩
    · exact .inl ⟨h2, by simpa [came] using h3⟩
    · exact .inr ⟨h2, by simp [came], h3⟩
end Go.Proofs.Ybulkcmsy
