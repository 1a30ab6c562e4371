/- THE WALK OF LawS4432CLeave (function 4). -/
import Derived.Test.YbulkcmtmCheck
import Derived.Test.YbulkcmtmJoin
import Derived.Test.YbulkcmtmNew
namespace Go.Proofs.Ybulkcmtm
open Go.RowKit
attribute [local go_sem] Oper.semAt_some

set_option maxHeartbeats 1000000 in
/-- 'func(yield func(int, int) bool) { yield(0, 4) }' -/
theorem seq12 (Kp : World → World → Prop) (w0 : World) : SeqStopsK Fence.wide 2 Yba.prog 12 #[] (fun x : Int × Int => #[.int .i64 x.1, .int .i64 x.2]) Kp (fun xs => xs = [(0, 4)]) (fun _ => True) 1 w0 := fun l J Jx W _ _ _ hY h0 => by
  refine callsIn_of_wp Yba.func12 rfl trivial ?_ rfl
  simp only [Yba.ntmps12, List.size_toArray, List.length_cons, List.length_nil, Nat.reduceAdd, Nat.reduceSub, Array.replicate_succ, Array.replicate_zero, List.push_toArray, List.append_toArray, List.nil_append, List.cons_append]
  obtain ⟨f1, t1, a1, b1, hy1, hR1⟩ := hY [] (0, 4) W h0 (by simp)
  dsimp only at hy1
  gi_wp2
  refine hR1.mono ?_
  rintro e W1 (⟨rfl, hJ1, _⟩ | ⟨rfl, hx1⟩)
  · gi_wp2
    go_end0
    exact ⟨⟨_, rfl⟩, .inl ⟨[(0, 4)], rfl, hJ1⟩⟩
  · gi_wp2
    go_end0
    exact ⟨⟨_, rfl⟩, .inr ⟨[(0, 4)], trivial, hx1⟩⟩

def SoI (T : Tree) : Prop := ∀ j, j < T.so.length → T.so[j]? = some (-1, -1) ∨ ∃ f t : Nat, T.so[j]? = some ((f : Int), (t : Int)) ∧ t ≤ T.st.length

theorem Joined.so_inv {T T' : Tree} {k ex : Nat} {x : Held} {cs : List (Int × Int)} (h : Joined T T' k ex x cs) (hk : k < T.so.length) (hi : SoI T) : SoI T' ∧ T'.st.length ≤ T.st.length + (covs ex cs).length := by
  by_cases e : T'.oAt[x.n]? = some 0
  · obtain ⟨T2, f, t, hS, hA, _, _, _⟩ := h.new e
    have e1 : T'.so = T2.so := hA.so
    have e2 : T'.st = T2.st := hA.st
    rcases hS with ⟨rfl, _⟩ | ⟨_, rfl⟩
    · refine ⟨?_, by rw [e2]; exact Nat.le_add_right _ _⟩
      intro j hj
      rw [e1, e2] at *
      exact hi j hj
    · have hl : T'.st.length = T.st.length + (covs ex cs).length := by rw [e2]; simp [Tree.stand, Tree.offer]
      refine ⟨?_, by omega⟩
      intro j hj
      rw [e1, e2] at *
      simp only [List.length_set] at hj
      by_cases ej : k = j
      · subst ej
        right
        exact ⟨T.st.length, T.st.length + (covs ex cs).length, List.getElem?_set_self hk, by simp [Tree.stand, Tree.offer]⟩
      · simp only [List.getElem?_set_ne ej]
        rcases hi j hj with e | ⟨f, t, e, ht⟩
        · exact .inl e
        · exact .inr ⟨f, t, e, by simp only [Tree.stand, Tree.offer, List.length_append]; omega⟩
  · obtain ⟨e1, e2, _⟩ := h.out e
    refine ⟨?_, by rw [e1]; exact Nat.le_add_right _ _⟩
    intro j hj
    rw [e2, e1] at *
    exact hi j hj

/-- The law's tree. -/
structure LT (w : World) (tb ib rb ex j : Nat) (T : Tree) (l : Lay) (inn : Nat → Bool) (rk : Nat → Int × Int) (W : World) : Prop where
  ts : TS W w.heap.size tb T l
  old : Below w.heap.size w W
  ci : CI T inn rk
  hw : HW T
  lv : T.lv = 2 ^ ex
  ex4 : ex ≤ 4
  hd : T.hd.length = 2 * 2 ^ ex
  sl : T.so.length = 3
  so : SoI T
  st : T.st.length ≤ 16 * j
  no : ∀ b, l.owns b → b ≠ ib ∧ b ≠ rb
  nt : tb ≠ ib ∧ tb ≠ rb
  lt : w.heap.size ≤ ib ∧ w.heap.size ≤ rb

structure LA (ib rb : Nat) (inn : Nat → Bool) (rk : Nat → Int × Int) (W : World) : Prop where
  ia : ∃ c, W.heap[ib]? = some (.cells c 44 (0, 0)) ∧ ∀ n, n < 8 → c[n]? = some (.bool (inn n))
  ra : ∃ c, W.heap[rb]? = some (.cells c 45 (0, 0)) ∧ ∀ n, n < 8 → c[n * 2]? = some (.int .i64 (rk n).1) ∧ c[n * 2 + 1]? = some (.int .i64 (rk n).2)

section
variable {w W W' : World} {tb ib rb ex j : Nat} {T T' : Tree} {l l' : Lay} {inn : Nat → Bool} {rk : Nat → Int × Int}

theorem LA.arr (h : LA ib rb inn rk W) : Arr W ib rb inn rk := by
  obtain ⟨c, hc, h1⟩ := h.ia
  obtain ⟨d, hd, h2⟩ := h.ra
  exact ⟨fun n hn => by simp [World.cell?, hc, h1 n hn], fun n hn => by simp [World.cell?, hd, (h2 n hn).1], fun n hn => by simp [World.cell?, hd, (h2 n hn).2]⟩

theorem LA.fi (h : LA ib rb inn rk W) (o : Nat) : W.frozen? ⟨ib, o, none⟩ = false := by obtain ⟨c, hc, _⟩ := h.ia; simp [World.frozen?, hc]
theorem LA.fr (h : LA ib rb inn rk W) (o : Nat) : W.frozen? ⟨rb, o, none⟩ = false := by obtain ⟨c, hc, _⟩ := h.ra; simp [World.frozen?, hc]
theorem LA.ne (h : LA ib rb inn rk W) : ib ≠ rb := by
  obtain ⟨c, hc, _⟩ := h.ia
  obtain ⟨d, hd, _⟩ := h.ra
  rintro rfl
  rw [hc] at hd; cases hd

theorem LA.keep (h : LA ib rb inn rk W) (h1 : W'.heap[ib]? = W.heap[ib]?) (h2 : W'.heap[rb]? = W.heap[rb]?) : LA ib rb inn rk W' := by
  obtain ⟨c, hc, k1⟩ := h.ia
  obtain ⟨d, hd, k2⟩ := h.ra
  exact ⟨⟨c, h1.trans hc, k1⟩, ⟨d, h2.trans hd, k2⟩⟩

theorem LA.lt (h : LA ib rb inn rk W) : ib < W.heap.size ∧ rb < W.heap.size := by
  obtain ⟨c, hc, _⟩ := h.ia
  obtain ⟨d, hd, _⟩ := h.ra
  exact ⟨(Array.getElem?_eq_some_iff.1 hc).1, (Array.getElem?_eq_some_iff.1 hd).1⟩

theorem LA.below (h : LA ib rb inn rk W) (hb : Below W.heap.size W W') : LA ib rb inn rk W' := h.keep (hb.block _ h.lt.1) (hb.block _ h.lt.2)

theorem LA.moves (h : LA ib rb inn rk W) (hn : ∀ b, l.owns b → b ≠ ib ∧ b ≠ rb) (ht : tb ≠ ib ∧ tb ≠ rb) (hm : Moves tb l W l' W') : LA ib rb inn rk W' :=
  h.keep (hm.touch.block _ h.lt.1 (fun e => e.elim (fun e => (hn _ e).1 rfl) (fun e => ht.1 e.symm))) (hm.touch.block _ h.lt.2 (fun e => e.elim (fun e => (hn _ e).2 rfl) (fun e => ht.2 e.symm)))

theorem blk_set {W : World} {b o : Nat} {c : Array Value} {t : TypeId} {v : Value} (h : W.heap[b]? = some (.cells c t (0, 0))) : (W.setCell ⟨b, o, none⟩ v).heap[b]? = some (.cells (c.setIfInBounds o v) t (0, 0)) := by
  show (W.heap.modify b _)[b]? = _
  rw [Array.getElem?_modify, if_pos rfl, h]
  simp

theorem LA.setIn (h : LA ib rb inn rk W) {n : Nat} (hn : n < 8) (v : Bool) : LA ib rb (upd inn n v) rk (W.setCell ⟨ib, n, none⟩ (.bool v)) := by
  obtain ⟨c, hc, k1⟩ := h.ia
  obtain ⟨d, hd, k2⟩ := h.ra
  refine ⟨⟨c.setIfInBounds n (.bool v), ?_, ?_⟩, ⟨d, (Below.heap_setCell _ _ _ _ (Ne.symm h.ne)).trans hd, k2⟩⟩
  · show (W.heap.modify ib _)[ib]? = _
    rw [Array.getElem?_modify, if_pos rfl, hc]
    simp
  · intro m hm
    rw [Array.getElem?_setIfInBounds]
    by_cases e : n = m
    · subst e
      have := (Array.getElem?_eq_some_iff.1 (k1 n hn)).1
      simp [this, upd]
    · rw [if_neg e, k1 m hm]; simp [upd, Ne.symm e]

theorem LA.setRk (h : LA ib rb inn rk W) {n : Nat} (hn : n < 8) (p q : Int) : LA ib rb inn (upd rk n (p, q)) ((W.setCell ⟨rb, n * 2, none⟩ (.int .i64 p)).setCell ⟨rb, n * 2 + 1, none⟩ (.int .i64 q)) := by
  obtain ⟨c, hc, k1⟩ := h.ia
  obtain ⟨d, hd, k2⟩ := h.ra
  refine ⟨⟨c, ?_, k1⟩, ⟨(d.setIfInBounds (n * 2) (.int .i64 p)).setIfInBounds (n * 2 + 1) (.int .i64 q), ?_, ?_⟩⟩
  · rw [Below.heap_setCell _ _ _ _ h.ne, Below.heap_setCell _ _ _ _ h.ne]; exact hc
  · exact blk_set (blk_set hd)
  · intro m hm
    have l1 := (Array.getElem?_eq_some_iff.1 (k2 n hn).1).1
    have l2 := (Array.getElem?_eq_some_iff.1 (k2 n hn).2).1
    simp only [Array.getElem?_setIfInBounds, Array.size_setIfInBounds]
    by_cases e : n = m
    · subst e
      simp [l1, l2, upd]
    · rw [if_neg (by omega), if_neg (by omega), if_neg (by omega), if_neg (by omega)]
      have := k2 m hm
      simp [upd, Ne.symm e, this.1, this.2]

theorem LT.below (h : LT w tb ib rb ex j T l inn rk W) (hb : Below W.heap.size W W') : LT w tb ib rb ex j T l inn rk W' :=
  ⟨h.ts.below hb, h.old.trans (hb.mono h.old.size), h.ci, h.hw, h.lv, h.ex4, h.hd, h.sl, h.so, h.st, h.no, h.nt, h.lt⟩

theorem LT.setArr (h : LT w tb ib rb ex j T l inn rk W) {b o : Nat} (hb : b = ib ∨ b = rb) (v : Value) : LT w tb ib rb ex j T l inn rk (W.setCell ⟨b, o, none⟩ v) := by
  refine ⟨h.ts.keepOwn (S := fun k => k = b) ((Touch.refl (fun k => k = b) W).set (p := ⟨b, o, none⟩) rfl v) ?_, h.old.setCell (p := ⟨b, o, none⟩) ?_ _, h.ci, h.hw, h.lv, h.ex4, h.hd, h.sl, h.so, h.st, h.no, h.nt, h.lt⟩
  · rintro k (e | e) rfl
    · have := h.no k e
      rcases hb with rfl | rfl
      · exact this.1 rfl
      · exact this.2 rfl
    · have := h.nt
      rcases hb with rfl | rfl
      · exact this.1 e.symm
      · exact this.2 e.symm
  · rcases hb with rfl | rfl
    · exact h.lt.1
    · exact h.lt.2

theorem LT.next (h : LT w tb ib rb ex j T l inn rk W) : LT w tb ib rb ex (j + 1) T l inn rk W :=
  ⟨h.ts, h.old, h.ci, h.hw, h.lv, h.ex4, h.hd, h.sl, h.so, by have := h.st; omega, h.no, h.nt, h.lt⟩

theorem LT.moved (h : LT w tb ib rb ex j T l inn rk W) (hA : LA ib rb inn rk W) (hm : Moves tb l W l' W') : Below w.heap.size w W' ∧ ∀ b, l'.owns b → b ≠ ib ∧ b ≠ rb := by
  refine ⟨h.old.trans (hm.toBelow h.ts), fun b hb => ?_⟩
  rcases hm.fresh b hb with e | e
  · exact h.no b e
  · have := hA.lt
    exact ⟨by omega, by omega⟩
end
end Go.Proofs.Ybulkcmtm
