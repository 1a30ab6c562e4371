/- WHAT A STEP ON THE TREE MAY TURN; THE TREE's OTHER ROWS TURNED. -/
import Derived.Test.YbulkcmtmTree
namespace Go.Proofs.Ybulkcmtm
open Go.RowKit

/-- The blocks of the tree's rows. -/
def Lay.owns (l : Lay) (k : Nat) : Prop :=
  l.vO.ownBlock = some k ∨ l.vA.ownBlock = some k ∨ l.vH.ownBlock = some k ∨ l.vS.ownBlock = some k ∨ l.vSA.ownBlock = some k ∨ l.vSO.ownBlock = some k ∨
    (∃ i, (l.iO.getD i nilS).ownBlock = some k) ∨ (∃ i, (l.iH.getD i nilS).ownBlock = some k)

/-- Nothing but the tree's own blocks has turned; its new rows are old ones or fresh. -/
structure Moves (tb : Nat) (l : Lay) (w : World) (l' : Lay) (w' : World) : Prop where
  touch : Touch (fun k => l.owns k ∨ k = tb) w w'
  fresh : ∀ k, l'.owns k → l.owns k ∨ w.heap.size ≤ k

theorem Moves.refl (tb : Nat) (l : Lay) (w : World) : Moves tb l w l w := ⟨Touch.refl _ w, fun _ h => .inl h⟩
theorem Moves.trans {tb : Nat} {l l' l'' : Lay} {w w' w'' : World} (h : Moves tb l w l' w') (k : Moves tb l' w' l'' w'') : Moves tb l w l'' w'' := by
  refine ⟨h.touch.trans' k.touch ?_, ?_⟩
  · rintro i hi (e | e)
    · rcases h.fresh i e with e | e
      · exact .inl e
      · omega
    · exact .inr e
  · intro i hi
    rcases k.fresh i hi with e | e
    · exact h.fresh i e
    · exact .inr (Nat.le_trans h.touch.size e)
theorem Moves.below {tb : Nat} {l : Lay} {w w' : World} (h : Below w.heap.size w w') : Moves tb l w l w' := ⟨Touch.below h, fun _ h => .inl h⟩
theorem Moves.drew (tb : Nat) (l : Lay) (w : World) : Moves tb l w l w.drew := ⟨(Touch.refl _ w).drew, fun _ h => .inl h⟩

section
variable {w w' : World} {base tb : Nat} {T : Tree} {l l' : Lay}

theorem getD_nil {l : List Value} {i k : Nat} (h : (l.getD i nilS).ownBlock = some k) : i < l.length := by
  rcases Nat.lt_or_ge i l.length with e | e
  · exact e
  · rw [List.getD_eq_getElem?_getD, List.getElem?_eq_none e] at h
    cases h

theorem own_cells {w : World} {base size n k : Nat} {e : TypeId} {v : Value} {xs : List Value} (h : w.ownsRow base e size v n xs) (hk : v.ownBlock = some k) : base ≤ k ∧ ∃ c, w.heap[k]? = some (.cells c e (0, 0)) := by
  refine ⟨(h.lt k hk).1, ?_⟩
  rcases h.2 with ⟨rfl, _⟩ | ⟨g, cap, cur, rfl, _, hgb, _⟩
  · simp [Value.ownBlock] at hk
  · obtain rfl : g = k := by simpa [Value.ownBlock] using hk
    exact ⟨cur, hgb⟩

theorem TS.owned (h : TS w base tb T l) {k : Nat} (hk : l.owns k) : base ≤ k ∧ ∃ c e, e ≠ 61 ∧ w.heap[k]? = some (.cells c e (0, 0)) := by
  have key : ∀ {e size n xs} {v : Value}, w.ownsRow base e size v n xs → e ≠ 61 → v.ownBlock = some k → base ≤ k ∧ ∃ c e, e ≠ 61 ∧ w.heap[k]? = some (.cells c e (0, 0)) := fun hr he hk => by
    obtain ⟨h1, c, h2⟩ := own_cells hr hk
    exact ⟨h1, c, _, he, h2⟩
  rcases hk with e | e | e | e | e | e | ⟨i, e⟩ | ⟨i, e⟩
  · exact key h.offs.row (by decide) e
  · exact key h.rA (by decide) e
  · exact key h.heads.row (by decide) e
  · exact key h.rS (by decide) e
  · exact key h.rSA (by decide) e
  · exact key h.rSO (by decide) e
  · exact key (h.offs.own i (by rw [← h.offs.len]; exact getD_nil e)) (by decide) e
  · exact key (h.heads.own i (by rw [← h.heads.len]; exact getD_nil e)) (by decide) e

theorem TS.owned_lt (h : TS w base tb T l) {k : Nat} (hk : l.owns k) : k < w.heap.size := by
  obtain ⟨_, c, e, _, hc⟩ := h.owned hk
  exact (Array.getElem?_eq_some_iff.1 hc).1

theorem TS.tb_lt (h : TS w base tb T l) : tb < w.heap.size := by
  obtain ⟨c, hc⟩ := h.tt
  exact (Array.getElem?_eq_some_iff.1 hc).1

theorem Moves.toBelow (h : TS w base tb T l) (m : Moves tb l w l' w') : Below base w w' := by
  refine m.touch.toBelow ?_ (Nat.le_trans h.lo (Nat.le_of_lt h.tb_lt))
  rintro k (e | e)
  · exact (h.owned e).1
  · rw [e]; exact h.lo

theorem Moves.others (h : TS w base tb T l) (m : Moves tb l w l' w') : KeepsOthers w w' := by
  refine ⟨m.touch.size, fun k o hk ho => ?_⟩
  refine (m.touch.block k (Array.getElem?_eq_some_iff.1 hk).1 ?_).trans hk
  rintro (e | e)
  · obtain ⟨_, c, t, _, hc⟩ := h.owned e
    rw [hk] at hc; cases hc; cases ho
  · obtain ⟨c, hc⟩ := h.tt
    rw [e, hc] at hk; cases hk; cases ho

/-- What the tree does not own lies as it lay. -/
theorem Moves.cell (m : Moves tb l w l' w') {b o : Nat} (hb : b < w.heap.size) (h1 : ¬ l.owns b) (h2 : b ≠ tb) : w'.heap[b]? = w.heap[b]? ∧ w'.cell? ⟨b, o, none⟩ = w.cell? ⟨b, o, none⟩ ∧ w'.frozen? ⟨b, o, none⟩ = w.frozen? ⟨b, o, none⟩ := by
  have e := m.touch.block b hb (fun e => e.elim h1 h2)
  exact ⟨e, World.cell?_of_block (a := ⟨b, o, none⟩) e, World.frozen?_of_block (a := ⟨b, o, none⟩) e⟩

theorem getD_set {l : List Value} {k : Nat} {v : Value} (hk : k < l.length) (i : Nat) : (l.set k v).getD i nilS = if i = k then v else l.getD i nilS := by
  simp only [List.getD, List.getElem?_set]
  by_cases e : k = i
  · subst e; simp [hk]
  · rw [if_neg e, if_neg (Ne.symm e)]

theorem moves_O {qb k : Nat} (h : TS w base tb T l) (hq : l.vO.ownBlock = some qb) (hk : k < T.off.length) {v' : Value}
    (ht : Touch (fun j => qblocks (l.iO.getD k nilS) l.vA j ∨ j = qb) w w') (hv : v'.ownBlock = (l.iO.getD k nilS).ownBlock ∨ ∃ g, v'.ownBlock = some g ∧ w.heap.size ≤ g) :
    Moves tb l w { l with iO := l.iO.set k v' } w' := by
  refine ⟨ht.mono ?_, ?_⟩
  · rintro j ((e | e) | e)
    · exact .inl (.inr (.inr (.inr (.inr (.inr (.inr (.inl ⟨k, e⟩)))))))
    · exact .inl (.inr (.inl e))
    · rw [e]; exact .inl (.inl hq)
  · rintro j (e | e | e | e | e | e | ⟨i, e⟩ | e)
    · exact .inl (.inl e)
    · exact .inl (.inr (.inl e))
    · exact .inl (.inr (.inr (.inl e)))
    · exact .inl (.inr (.inr (.inr (.inl e))))
    · exact .inl (.inr (.inr (.inr (.inr (.inl e)))))
    · exact .inl (.inr (.inr (.inr (.inr (.inr (.inl e))))))
    · simp only [getD_set (show k < l.iO.length by rw [h.offs.len]; exact hk)] at e
      by_cases ei : i = k
      · rw [if_pos ei] at e
        rcases hv with e1 | ⟨g, e1, hg⟩
        · exact .inl (.inr (.inr (.inr (.inr (.inr (.inr (.inl ⟨k, by rw [← e1]; exact e⟩)))))))
        · rw [e1] at e; cases e; exact .inr hg
      · rw [if_neg ei] at e
        exact .inl (.inr (.inr (.inr (.inr (.inr (.inr (.inl ⟨i, e⟩)))))))
    · exact .inl (.inr (.inr (.inr (.inr (.inr (.inr (.inr e)))))))

theorem moves_H {qb k : Nat} (h : TS w base tb T l) (hq : l.vH.ownBlock = some qb) (hk : k < T.hd.length) {v' : Value}
    (ht : Touch (fun j => qblocks (l.iH.getD k nilS) l.vSA j ∨ j = qb) w w') (hv : v'.ownBlock = (l.iH.getD k nilS).ownBlock ∨ ∃ g, v'.ownBlock = some g ∧ w.heap.size ≤ g) :
    Moves tb l w { l with iH := l.iH.set k v' } w' := by
  refine ⟨ht.mono ?_, ?_⟩
  · rintro j ((e | e) | e)
    · exact .inl (.inr (.inr (.inr (.inr (.inr (.inr (.inr ⟨k, e⟩)))))))
    · exact .inl (.inr (.inr (.inr (.inr (.inl e)))))
    · rw [e]; exact .inl (.inr (.inr (.inl hq)))
  · rintro j (e | e | e | e | e | e | e | ⟨i, e⟩)
    · exact .inl (.inl e)
    · exact .inl (.inr (.inl e))
    · exact .inl (.inr (.inr (.inl e)))
    · exact .inl (.inr (.inr (.inr (.inl e))))
    · exact .inl (.inr (.inr (.inr (.inr (.inl e)))))
    · exact .inl (.inr (.inr (.inr (.inr (.inr (.inl e))))))
    · exact .inl (.inr (.inr (.inr (.inr (.inr (.inr (.inl e)))))))
    · simp only [getD_set (show k < l.iH.length by rw [h.heads.len]; exact hk)] at e
      by_cases ei : i = k
      · rw [if_pos ei] at e
        rcases hv with e1 | ⟨g, e1, hg⟩
        · exact .inl (.inr (.inr (.inr (.inr (.inr (.inr (.inr ⟨k, by rw [← e1]; exact e⟩)))))))
        · rw [e1] at e; cases e; exact .inr hg
      · rw [if_neg ei] at e
        exact .inl (.inr (.inr (.inr (.inr (.inr (.inr (.inr ⟨i, e⟩)))))))

/-- A head's queue has turned. -/
theorem TS.updH {qb k : Nat} (h : TS w base tb T l) (hq : l.vH.ownBlock = some qb) (hk : k < T.hd.length) {v' : Value} {it' : List Held} {at' : List Int}
    (ht : Touch (fun j => qblocks (l.iH.getD k nilS) l.vSA j ∨ j = qb) w w') (hs : qset w w' qb (k * 2) v') (hQ : QS w' base qb (k * 2) tb 8 v' l.vSA ⟨it', at'⟩)
    (hv : v'.ownBlock = (l.iH.getD k nilS).ownBlock ∨ ∃ g, v'.ownBlock = some g ∧ w.heap.size ≤ g) :
    TS w' base tb { T with hd := T.hd.set k it', sAt := at' } { l with iH := l.iH.set k v' } := by
  have hQ0 := h.heads.queue hq hk h.c8 h.rSA h.tt
  obtain ⟨c, hc⟩ := h.tt
  have ltb := (Array.getElem?_eq_some_iff.1 hc).1
  have et : w'.heap[tb]? = w.heap[tb]? := ht.block tb ltb (by
    rintro ((e | e) | e)
    · exact hQ0.vt e
    · exact hQ0.at' e
    · exact hQ0.qt e.symm)
  have ce : ∀ j, w'.cell? ⟨tb, j, none⟩ = w.cell? ⟨tb, j, none⟩ := fun j => World.cell?_of_block (a := ⟨tb, j, none⟩) et
  have kp : ∀ {e size n xs} {u : Value}, w.ownsRow base e size u n xs → sep u (l.iH.getD k nilS) → sep u l.vSA → sep u l.vH → w'.ownsRow base e size u n xs := by
    intro e size n xs u hu s1 s2 s3
    refine own_keep hu ht ?_
    rintro j hj ((h1 | h1) | h1)
    · exact s1 j hj h1
    · exact s2 j hj h1
    · exact s3 j hj (by rw [hq, h1])
  have ho := h.heads.own k hk
  refine ⟨⟨c, et.trans hc⟩, h.lo, (ce 0).trans h.c0, (ce 4).trans h.c4, (ce 5).trans h.c5, (ce 6).trans h.c6, (ce 7).trans h.c7, (ce 8).trans h.c8, (ce 9).trans h.c9,
    ?_, h.heads.upd hq hk h.rSA ht hs hQ.own hv, ?_, hQ.ats, ?_, ?_, h.sA, h.sQ, ?_⟩
  · refine h.offs.keep ht ?_ ?_
    · rintro j hj ((h1 | h1) | h1)
      · exact own_sep h.offs.row ho (by decide) j hj h1
      · exact own_sep h.offs.row h.rSA (by decide) j hj h1
      · exact h.sQ j hj (by rw [hq, h1])
    · rintro i hi j hj ((h1 | h1) | h1)
      · exact h.sI i k hi hk j hj h1
      · exact own_sep (h.offs.own i hi) h.rSA (by decide) j hj h1
      · exact own_sep (h.offs.own i hi) h.heads.row (by decide) j hj (by rw [hq, h1])
  · exact kp h.rA (own_sep h.rA ho (by decide)) h.sA (own_sep h.rA h.heads.row (by decide))
  · exact kp h.rS (own_sep h.rS ho (by decide)) (own_sep h.rS h.rSA (by decide)) (own_sep h.rS h.heads.row (by decide))
  · exact kp h.rSO (own_sep h.rSO ho (by decide)) (own_sep h.rSO h.rSA (by decide)) (own_sep h.rSO h.heads.row (by decide))
  · intro i j hi hj
    rw [List.length_set] at hj
    simp only [getD_set (show k < l.iH.length by rw [h.heads.len]; exact hk)]
    by_cases e : j = k
    · rw [if_pos e]
      intro b hb1 hb2
      rcases hv with e1 | ⟨g, e1, hg⟩
      · exact h.sI i k hi hk b hb1 (by rw [← e1]; exact hb2)
      · rw [e1] at hb2
        have := ((h.offs.own i hi).lt b hb1).2
        cases hb2
        omega
    · rw [if_neg e]; exact h.sI i j hi hj

theorem tb_cell {c : Array Value} {v' : Value} {i j : Nat} (h : w.heap[tb]? = some (.cells c 61 (0, 0))) (h' : w'.heap[tb]? = some (.cells (c.setIfInBounds i v') 61 (0, 0))) (hij : j ≠ i) : w'.cell? ⟨tb, j, none⟩ = w.cell? ⟨tb, j, none⟩ := by
  simp only [World.cell?, h, h']
  simp [Ne.symm hij]

theorem tb_cell' {c : Array Value} {v' u : Value} {i : Nat} (h : w.heap[tb]? = some (.cells c 61 (0, 0))) (h' : w'.heap[tb]? = some (.cells (c.setIfInBounds i v') 61 (0, 0))) (hu : w.cell? ⟨tb, i, none⟩ = some u) : w'.cell? ⟨tb, i, none⟩ = some v' := by
  simp only [World.cell?, h] at hu
  simp only [World.cell?, h']
  have hlt : i < c.size := by
    rcases Nat.lt_or_ge i c.size with e | e
    · exact e
    · simp [e] at hu
  simp [hlt]

/-- 't.stands = ..' -/
theorem TS.turnS {v' : Value} {st' : List (Int × Int)} (h : TS w base tb T l) (ht : Touch (fun j => l.vS.ownBlock = some j ∨ j = tb) w w')
    (hc : ∀ c, w.heap[tb]? = some (.cells c 61 (0, 0)) → w'.heap[tb]? = some (.cells (c.setIfInBounds 7 v') 61 (0, 0))) (ho : w'.ownsRow base 75 2 v' st'.length (pairs st')) :
    TS w' base tb { T with st := st' } { l with vS := v' } := by
  obtain ⟨c, hcc⟩ := h.tt
  have hcc' := hc c hcc
  have ce : ∀ j, j ≠ 7 → w'.cell? ⟨tb, j, none⟩ = w.cell? ⟨tb, j, none⟩ := fun j hj => tb_cell hcc hcc' hj
  have nt : ∀ {e size n xs} {u : Value}, w.ownsRow base e size u n xs → e ≠ 61 → e ≠ 75 → ∀ k, u.ownBlock = some k → ¬ (l.vS.ownBlock = some k ∨ k = tb) := by
    rintro e size n xs u hu h1 h2 k hk (e1 | e1)
    · exact own_sep hu h.rS h2 k hk e1
    · exact own_tb hu h.tt h1 (by rw [← e1]; exact hk)
  exact ⟨⟨_, hcc'⟩, h.lo, (ce 0 (by decide)).trans h.c0, (ce 4 (by decide)).trans h.c4, (ce 5 (by decide)).trans h.c5, (ce 6 (by decide)).trans h.c6, tb_cell' hcc hcc' h.c7, (ce 8 (by decide)).trans h.c8, (ce 9 (by decide)).trans h.c9,
    h.offs.keep ht (nt h.offs.row (by decide) (by decide)) (fun i hi => nt (h.offs.own i hi) (by decide) (by decide)), h.heads.keep ht (nt h.heads.row (by decide) (by decide)) (fun i hi => nt (h.heads.own i hi) (by decide) (by decide)),
    own_keep h.rA ht (nt h.rA (by decide) (by decide)), own_keep h.rSA ht (nt h.rSA (by decide) (by decide)), ho, own_keep h.rSO ht (nt h.rSO (by decide) (by decide)), h.sA, h.sQ, h.sI⟩

theorem moves_S {v' : Value} (ht : Touch (fun j => l.vS.ownBlock = some j ∨ j = tb) w w') (hv : v'.ownBlock = l.vS.ownBlock ∨ ∃ g, v'.ownBlock = some g ∧ w.heap.size ≤ g) : Moves tb l w { l with vS := v' } w' := by
  refine ⟨ht.mono ?_, ?_⟩
  · rintro j (e | e)
    · exact .inl (.inr (.inr (.inr (.inl e))))
    · exact .inr e
  · rintro j (e | e | e | e | e | e | e | e)
    · exact .inl (.inl e)
    · exact .inl (.inr (.inl e))
    · exact .inl (.inr (.inr (.inl e)))
    · rcases hv with e1 | ⟨g, e1, hg⟩
      · exact .inl (.inr (.inr (.inr (.inl (by rw [← e1]; exact e)))))
      · simp only [] at e; rw [e1] at e; cases e; exact .inr hg
    · exact .inl (.inr (.inr (.inr (.inr (.inl e)))))
    · exact .inl (.inr (.inr (.inr (.inr (.inr (.inl e))))))
    · exact .inl (.inr (.inr (.inr (.inr (.inr (.inr (.inl e)))))))
    · exact .inl (.inr (.inr (.inr (.inr (.inr (.inr (.inr e)))))))

/-- 't.standAt = ..' -/
theorem TS.turnA {v' : Value} {sa' : List Int} (h : TS w base tb T l) (ht : Touch (fun j => l.vSA.ownBlock = some j ∨ j = tb) w w')
    (hc : ∀ c, w.heap[tb]? = some (.cells c 61 (0, 0)) → w'.heap[tb]? = some (.cells (c.setIfInBounds 8 v') 61 (0, 0))) (ho : w'.ownsRow base 3 1 v' sa'.length (ints sa'))
    (hv : v'.ownBlock = l.vSA.ownBlock ∨ ∃ g, v'.ownBlock = some g ∧ w.heap.size ≤ g) :
    TS w' base tb { T with sAt := sa' } { l with vSA := v' } := by
  obtain ⟨c, hcc⟩ := h.tt
  have hcc' := hc c hcc
  have ce : ∀ j, j ≠ 8 → w'.cell? ⟨tb, j, none⟩ = w.cell? ⟨tb, j, none⟩ := fun j hj => tb_cell hcc hcc' hj
  have nt : ∀ {e size n xs} {u : Value}, w.ownsRow base e size u n xs → e ≠ 61 → sep u l.vSA → ∀ k, u.ownBlock = some k → ¬ (l.vSA.ownBlock = some k ∨ k = tb) := by
    rintro e size n xs u hu h1 h2 k hk (e1 | e1)
    · exact h2 k hk e1
    · exact own_tb hu h.tt h1 (by rw [← e1]; exact hk)
  have ns : ∀ {e size n xs} {u : Value}, w.ownsRow base e size u n xs → e ≠ 3 → sep u l.vSA := fun hu he => own_sep hu h.rSA he
  refine ⟨⟨_, hcc'⟩, h.lo, (ce 0 (by decide)).trans h.c0, (ce 4 (by decide)).trans h.c4, (ce 5 (by decide)).trans h.c5, (ce 6 (by decide)).trans h.c6, (ce 7 (by decide)).trans h.c7, tb_cell' hcc hcc' h.c8, (ce 9 (by decide)).trans h.c9,
    h.offs.keep ht (nt h.offs.row (by decide) (ns h.offs.row (by decide))) (fun i hi => nt (h.offs.own i hi) (by decide) (ns (h.offs.own i hi) (by decide))), h.heads.keep ht (nt h.heads.row (by decide) (ns h.heads.row (by decide))) (fun i hi => nt (h.heads.own i hi) (by decide) (ns (h.heads.own i hi) (by decide))),
    own_keep h.rA ht (nt h.rA (by decide) h.sA), ho, own_keep h.rS ht (nt h.rS (by decide) (ns h.rS (by decide))), own_keep h.rSO ht (nt h.rSO (by decide) (ns h.rSO (by decide))), ?_, h.sQ, h.sI⟩
  intro k h1 h2
  rcases hv with e | ⟨g, e, hg⟩
  · exact h.sA k h1 (by rw [← e]; exact h2)
  · have := (h.rA.lt k h1).2
    simp only [] at h2
    rw [e] at h2; cases h2; omega

theorem moves_A {v' : Value} (ht : Touch (fun j => l.vSA.ownBlock = some j ∨ j = tb) w w') (hv : v'.ownBlock = l.vSA.ownBlock ∨ ∃ g, v'.ownBlock = some g ∧ w.heap.size ≤ g) : Moves tb l w { l with vSA := v' } w' := by
  refine ⟨ht.mono ?_, ?_⟩
  · rintro j (e | e)
    · exact .inl (.inr (.inr (.inr (.inr (.inl e)))))
    · exact .inr e
  · rintro j (e | e | e | e | e | e | e | e)
    · exact .inl (.inl e)
    · exact .inl (.inr (.inl e))
    · exact .inl (.inr (.inr (.inl e)))
    · exact .inl (.inr (.inr (.inr (.inl e))))
    · rcases hv with e1 | ⟨g, e1, hg⟩
      · exact .inl (.inr (.inr (.inr (.inr (.inl (by rw [← e1]; exact e))))))
      · simp only [] at e; rw [e1] at e; cases e; exact .inr hg
    · exact .inl (.inr (.inr (.inr (.inr (.inr (.inl e))))))
    · exact .inl (.inr (.inr (.inr (.inr (.inr (.inr (.inl e)))))))
    · exact .inl (.inr (.inr (.inr (.inr (.inr (.inr (.inr e)))))))

theorem pairs_cons (p : Int × Int) (l : List (Int × Int)) : pairs (p :: l) = .int .i64 p.1 :: .int .i64 p.2 :: pairs l := by simp [pairs]
theorem pairs_append (a b : List (Int × Int)) : pairs (a ++ b) = pairs a ++ pairs b := by simp [pairs]
theorem pairs_get (l : List (Int × Int)) (i : Nat) (p : Int × Int) (h : l[i]? = some p) : (pairs l)[i * 2]? = some (.int .i64 p.1) ∧ (pairs l)[i * 2 + 1]? = some (.int .i64 p.2) := by
  induction l generalizing i with
  | nil => simp at h
  | cons x xs ih =>
    rw [pairs_cons]
    cases i with
    | zero => simp at h; subst h; simp
    | succ i =>
      have := ih i (by simpa using h)
      rw [show (i + 1) * 2 = i * 2 + 1 + 1 by omega]
      simpa using this
theorem pairs_set (l : List (Int × Int)) (i : Nat) (p : Int × Int) : pairs (l.set i p) = ((pairs l).set (i * 2) (.int .i64 p.1)).set (i * 2 + 1) (.int .i64 p.2) := by
  induction l generalizing i with
  | nil => simp [pairs]
  | cons x xs ih =>
    cases i with
    | zero => simp [pairs_cons]
    | succ i =>
      rw [show (i + 1) * 2 = i * 2 + 1 + 1 by omega, List.set_cons_succ, pairs_cons, pairs_cons, ih]
      simp

/-- 't.standsOf[k] = ..' -/
theorem TS.setSO {g : Nat} (h : TS w base tb T l) (hg : l.vSO.ownBlock = some g) (k : Nat) (p : Int × Int) :
    TS ((w.setCell ⟨g, k * 2, none⟩ (.int .i64 p.1)).setCell ⟨g, k * 2 + 1, none⟩ (.int .i64 p.2)) base tb { T with so := T.so.set k p } l := by
  have ht : Touch (fun j => j = g) w ((w.setCell ⟨g, k * 2, none⟩ (.int .i64 p.1)).setCell ⟨g, k * 2 + 1, none⟩ (.int .i64 p.2)) := ((Touch.refl (fun j => j = g) w).set (p := ⟨g, k * 2, none⟩) rfl _).set (p := ⟨g, k * 2 + 1, none⟩) rfl _
  have gt : g ≠ tb := fun e => own_tb h.rSO h.tt (by decide) (by rw [← e]; exact hg)
  obtain ⟨c, hc⟩ := h.tt
  have et := ht.block tb (Array.getElem?_eq_some_iff.1 hc).1 gt.symm
  have ce : ∀ j, ((w.setCell ⟨g, k * 2, none⟩ (.int .i64 p.1)).setCell ⟨g, k * 2 + 1, none⟩ (.int .i64 p.2)).cell? ⟨tb, j, none⟩ = w.cell? ⟨tb, j, none⟩ := fun j => World.cell?_of_block (a := ⟨tb, j, none⟩) et
  have nt : ∀ {e size n xs} {u : Value}, w.ownsRow base e size u n xs → e ≠ 56 → ∀ j, u.ownBlock = some j → ¬ j = g := by
    rintro e size n xs u hu h1 j hj rfl
    exact own_sep hu h.rSO h1 j hj hg
  refine ⟨⟨c, et.trans hc⟩, h.lo, (ce 0).trans h.c0, (ce 4).trans h.c4, (ce 5).trans h.c5, (ce 6).trans h.c6, (ce 7).trans h.c7, (ce 8).trans h.c8, (ce 9).trans h.c9,
    h.offs.keep ht (nt h.offs.row (by decide)) (fun i hi => nt (h.offs.own i hi) (by decide)), h.heads.keep ht (nt h.heads.row (by decide)) (fun i hi => nt (h.heads.own i hi) (by decide)),
    own_keep h.rA ht (nt h.rA (by decide)), own_keep h.rSA ht (nt h.rSA (by decide)), own_keep h.rS ht (nt h.rS (by decide)), ?_, h.sA, h.sQ, h.sI⟩
  simp only [List.length_set]
  rw [pairs_set]
  exact own_set (own_set h.rSO hg _ _) hg _ _

theorem moves_SO {g : Nat} (hg : l.vSO.ownBlock = some g) (i j : Nat) (u v : Value) : Moves tb l w l ((w.setCell ⟨g, i, none⟩ u).setCell ⟨g, j, none⟩ v) :=
  ⟨(((Touch.refl _ w).set (p := ⟨g, i, none⟩) (.inl (.inr (.inr (.inr (.inr (.inr (.inl hg))))))) _).set (p := ⟨g, j, none⟩) (.inl (.inr (.inr (.inr (.inr (.inr (.inl hg))))))) _), fun _ h => .inl h⟩

/-- 'node.items[at].rank = r' -/
theorem TS.setRank {g k i : Nat} (h : TS w base tb T l) (hk : k < T.hd.length) (hg : (l.iH.getD k nilS).ownBlock = some g) (hi : i < (T.hd.getD k []).length) (p q : Int) :
    TS ((w.setCell ⟨g, i * 3 + 1, none⟩ (.int .i64 p)).setCell ⟨g, i * 3 + 2, none⟩ (.int .i64 q)) base tb { T with hd := T.hd.set k ((T.hd.getD k []).set i ⟨((T.hd.getD k [])[i]).n, p, q⟩) } l := by
  have ho := h.heads.own k hk
  have ht : Touch (fun j => j = g) w ((w.setCell ⟨g, i * 3 + 1, none⟩ (.int .i64 p)).setCell ⟨g, i * 3 + 2, none⟩ (.int .i64 q)) := ((Touch.refl (fun j => j = g) w).set (p := ⟨g, i * 3 + 1, none⟩) rfl _).set (p := ⟨g, i * 3 + 2, none⟩) rfl _
  have gt : g ≠ tb := fun e => own_tb ho h.tt (by decide) (by rw [← e]; exact hg)
  obtain ⟨c, hc⟩ := h.tt
  have et := ht.block tb (Array.getElem?_eq_some_iff.1 hc).1 gt.symm
  have ce : ∀ j, ((w.setCell ⟨g, i * 3 + 1, none⟩ (.int .i64 p)).setCell ⟨g, i * 3 + 2, none⟩ (.int .i64 q)).cell? ⟨tb, j, none⟩ = w.cell? ⟨tb, j, none⟩ := fun j => World.cell?_of_block (a := ⟨tb, j, none⟩) et
  have nt : ∀ {e size n xs} {u : Value}, w.ownsRow base e size u n xs → e ≠ 72 → ∀ j, u.ownBlock = some j → ¬ j = g := by
    rintro e size n xs u hu h1 j hj rfl
    exact own_sep hu ho h1 j hj hg
  have gq : ∀ j, (T.hd.set k ((T.hd.getD k []).set i ⟨((T.hd.getD k [])[i]).n, p, q⟩)).getD j [] = if j = k then (T.hd.getD k []).set i ⟨((T.hd.getD k [])[i]).n, p, q⟩ else T.hd.getD j [] := by
    intro j
    simp only [List.getD, List.getElem?_set]
    by_cases e : k = j
    · subst e; simp [hk]
    · rw [if_neg e, if_neg (Ne.symm e)]
  refine ⟨⟨c, et.trans hc⟩, h.lo, (ce 0).trans h.c0, (ce 4).trans h.c4, (ce 5).trans h.c5, (ce 6).trans h.c6, (ce 7).trans h.c7, (ce 8).trans h.c8, (ce 9).trans h.c9,
    h.offs.keep ht (nt h.offs.row (by decide)) ?_, ⟨?_, by simp [h.heads.len], ?_, ?_⟩,
    own_keep h.rA ht (nt h.rA (by decide)), own_keep h.rSA ht (nt h.rSA (by decide)), own_keep h.rS ht (nt h.rS (by decide)), own_keep h.rSO ht (nt h.rSO (by decide)), h.sA, h.sQ, ?_⟩
  · rintro j hj b hb rfl
    exact h.sI j k hj hk b hb hg
  · rw [List.length_set]; exact own_keep h.heads.row ht (nt h.heads.row (by decide))
  · intro j hj
    rw [List.length_set] at hj
    rw [gq]
    by_cases e : j = k
    · subst e
      rw [if_pos rfl, List.length_set, flat_set]
      obtain ⟨f1, _, _⟩ := flat_get (T.hd.getD j []) i hi
      have e1 : (flat (T.hd.getD j [])).set (i * 3) (.int .i64 (((T.hd.getD j [])[i]).n : Int)) = flat (T.hd.getD j []) := by
        obtain ⟨hlt, hh⟩ := List.getElem?_eq_some_iff.1 f1
        rw [← hh, List.set_getElem_self]
      rw [e1]
      exact own_set (own_set ho hg _ _) hg _ _
    · rw [if_neg e]
      refine own_keep (h.heads.own j hj) ht ?_
      rintro b hb rfl
      exact h.heads.apart j k hj hk e b hb hg
  · intro a b ha hb
    rw [List.length_set] at ha hb
    exact h.heads.apart a b ha hb
  · intro a b ha hb
    simp only [List.length_set] at hb
    exact h.sI a b ha hb

theorem moves_rank {g k : Nat} (hg : (l.iH.getD k nilS).ownBlock = some g) (i j : Nat) (u v : Value) : Moves tb l w l ((w.setCell ⟨g, i, none⟩ u).setCell ⟨g, j, none⟩ v) :=
  ⟨(((Touch.refl _ w).set (p := ⟨g, i, none⟩) (.inl (.inr (.inr (.inr (.inr (.inr (.inr (.inr ⟨k, hg⟩)))))))) _).set (p := ⟨g, j, none⟩) (.inl (.inr (.inr (.inr (.inr (.inr (.inr (.inr ⟨k, hg⟩)))))))) _), fun _ h => .inl h⟩
end
end Go.Proofs.Ybulkcmtm
