/- THE TREE AS IT LIES IN MEMORY: rows of queues. -/
import Derived.Test.YbulkcmtmHeap
namespace Go.Proofs.Ybulkcmtm
open Go.RowKit

/-- A nil slice. -/
def nilS : Value := .slice none 0 0
/-- Two values own no block in common. -/
def sep (a b : Value) : Prop := ∀ k, a.ownBlock = some k → b.ownBlock = some k → False
theorem sep.symm {a b : Value} (h : sep a b) : sep b a := fun k h1 h2 => h k h2 h1

theorem own_sep {w : World} {base base' size n size' n' : Nat} {e e' : TypeId} {v v' : Value} {xs xs' : List Value} (h : w.ownsRow base e size v n xs) (h' : w.ownsRow base' e' size' v' n' xs') (he : e ≠ e') : sep v v' := by
  intro k h1 h2
  rcases h'.2 with ⟨rfl, _⟩ | ⟨g, cap, cur, rfl, _, hgb, _⟩
  · simp [Value.ownBlock] at h2
  · obtain rfl : g = k := by simpa [Value.ownBlock] using h2
    exact own_ne h hgb (fun x => he x.symm) h1

theorem own_keep {w w' : World} {S : Nat → Prop} {base size n : Nat} {e : TypeId} {v : Value} {xs : List Value} (hu : w.ownsRow base e size v n xs) (ht : Touch S w w') (hn : ∀ k, v.ownBlock = some k → ¬ S k) : w'.ownsRow base e size v n xs := by
  refine ⟨hu.1, ?_⟩
  rcases hu.2 with ⟨rfl, h0⟩ | ⟨g, cap, cur, rfl, hb, hk, r⟩
  · exact .inl ⟨rfl, h0⟩
  · exact .inr ⟨g, cap, cur, rfl, hb, (ht.block _ (Array.getElem?_eq_some_iff.1 hk).1 (hn g rfl)).trans hk, r⟩

def pairs (l : List (Int × Int)) : List Value := l.flatMap fun p => [.int .i64 p.1, .int .i64 p.2]
def qrow (l : List Value) (p : Value) : List Value := l.flatMap fun v => [v, p]

theorem qrow_cons (v p : Value) (l : List Value) : qrow (v :: l) p = v :: p :: qrow l p := by simp [qrow]
@[simp] theorem qrow_length (l : List Value) (p : Value) : (qrow l p).length = l.length * 2 := by
  induction l with
  | nil => rfl
  | cons x xs ih => rw [qrow_cons]; simp [ih]; omega

theorem qrow_get (l : List Value) (p : Value) (k : Nat) (h : k < l.length) : (qrow l p)[k * 2]? = some (l.getD k nilS) ∧ (qrow l p)[k * 2 + 1]? = some p := by
  induction l generalizing k with
  | nil => simp at h
  | cons x xs ih =>
    rw [qrow_cons]
    cases k with
    | zero => simp
    | succ k =>
      have := ih k (by simpa using h)
      rw [show (k + 1) * 2 = k * 2 + 1 + 1 by omega]
      simpa using this

theorem qrow_set (l : List Value) (p : Value) (k : Nat) (v : Value) : qrow (l.set k v) p = (qrow l p).set (k * 2) v := by
  induction l generalizing k with
  | nil => simp [qrow]
  | cons x xs ih =>
    cases k with
    | zero => simp [qrow_cons]
    | succ k =>
      rw [show (k + 1) * 2 = k * 2 + 1 + 1 by omega, List.set_cons_succ, qrow_cons, qrow_cons, ih]
      simp

/-- A ROW OF QUEUES that share one 'at'. -/
structure QR (w : World) (base tb ao : Nat) (vq : Value) (iv : List Value) (qs : List (List Held)) : Prop where
  row : w.ownsRow base 68 2 vq qs.length (qrow iv (.pointer (some ⟨tb, ao, none⟩)))
  len : iv.length = qs.length
  own : ∀ k, k < qs.length → w.ownsRow base 72 3 (iv.getD k nilS) (qs.getD k []).length (flat (qs.getD k []))
  apart : ∀ i j, i < qs.length → j < qs.length → i ≠ j → sep (iv.getD i nilS) (iv.getD j nilS)

section
variable {w w' : World} {base tb ao qb : Nat} {vq va : Value} {iv : List Value} {qs : List (List Held)} {at_ : List Int}

theorem QR.block (h : QR w base tb ao vq iv qs) (hk : 0 < qs.length) : ∃ qb cap, vq = .slice (some ⟨qb, 0, none⟩) qs.length cap := by
  obtain ⟨g, cap, e, _⟩ := h.row.form hk
  exact ⟨g, cap, e⟩

theorem QR.queue (h : QR w base tb ao vq iv qs) (hq : vq.ownBlock = some qb) {k : Nat} (hk : k < qs.length) (hsl : w.cell? ⟨tb, ao, none⟩ = some va) (hat : w.ownsRow base 3 1 va at_.length (ints at_)) (htt : ∃ c, w.heap[tb]? = some (.cells c 61 (0, 0))) :
    QS w base qb (k * 2) tb ao (iv.getD k nilS) va ⟨qs.getD k [], at_⟩ := by
  obtain ⟨g1, g2⟩ := qrow_get iv (.pointer (some ⟨tb, ao, none⟩)) k (by rw [h.len]; exact hk)
  refine ⟨own_cell h.row hq g1, own_cell h.row hq g2, hsl, h.own k hk, hat, ?_, htt⟩
  rcases h.row.2 with ⟨rfl, _⟩ | ⟨g, cap, cur, rfl, _, hgb, _⟩
  · simp [Value.ownBlock] at hq
  · obtain rfl : g = qb := by simpa [Value.ownBlock] using hq
    exact ⟨cur, hgb⟩

theorem QR.keep {S : Nat → Prop} (h : QR w base tb ao vq iv qs) (ht : Touch S w w') (h1 : ∀ k, vq.ownBlock = some k → ¬ S k) (h2 : ∀ i, i < qs.length → ∀ k, (iv.getD i nilS).ownBlock = some k → ¬ S k) : QR w' base tb ao vq iv qs :=
  ⟨own_keep h.row ht h1, h.len, fun k hk => own_keep (h.own k hk) ht (h2 k hk), h.apart⟩

/-- Queue k has turned. -/
theorem QR.upd (h : QR w base tb ao vq iv qs) (hq : vq.ownBlock = some qb) {k : Nat} (hk : k < qs.length) (hat : w.ownsRow base 3 1 va at_.length (ints at_)) {v' : Value} {it' : List Held}
    (ht : Touch (fun j => qblocks (iv.getD k nilS) va j ∨ j = qb) w w') (hs : qset w w' qb (k * 2) v') (ho : w'.ownsRow base 72 3 v' it'.length (flat it'))
    (hv : v'.ownBlock = (iv.getD k nilS).ownBlock ∨ ∃ g, v'.ownBlock = some g ∧ w.heap.size ≤ g) : QR w' base tb ao vq (iv.set k v') (qs.set k it') := by
  have gv : ∀ i, (iv.set k v').getD i nilS = if i = k then v' else iv.getD i nilS := by
    intro i
    simp only [List.getD, List.getElem?_set]
    by_cases e : k = i
    · subst e; simp [h.len, hk]
    · rw [if_neg e, if_neg (Ne.symm e)]
  have gq : ∀ i, (qs.set k it').getD i [] = if i = k then it' else qs.getD i [] := by
    intro i
    simp only [List.getD, List.getElem?_set]
    by_cases e : k = i
    · subst e; simp [hk]
    · rw [if_neg e, if_neg (Ne.symm e)]
  have hlt : ∀ i, i < qs.length → ∀ j, (iv.getD i nilS).ownBlock = some j → j < w.heap.size := fun i hi j e => ((h.own i hi).lt j e).2
  refine ⟨?_, by simp [h.len], ?_, ?_⟩
  · rw [List.length_set, qrow_set]
    refine ⟨by rw [List.length_set]; exact h.row.1, ?_⟩
    rcases h.row.2 with ⟨rfl, _⟩ | ⟨g, cap, cur, rfl, hb, hgb, r1, r2, r3, r4⟩
    · simp [Value.ownBlock] at hq
    · obtain rfl : g = qb := by simpa [Value.ownBlock] using hq
      refine .inr ⟨g, cap, _, rfl, hb, hs cur hgb, r1, r2, by simpa using r3, ?_⟩
      rw [Array.toList_setIfInBounds, ← r4, List.take_set]
  · intro i hi
    rw [List.length_set] at hi
    rw [gv, gq]
    by_cases e : i = k
    · rw [if_pos e, if_pos e]; exact ho
    · rw [if_neg e, if_neg e]
      refine own_keep (h.own i hi) ht ?_
      rintro j hj ((h1 | h1) | h1)
      · exact h.apart i k hi hk e j hj h1
      · exact own_sep (h.own i hi) hat (by decide) j hj h1
      · exact own_sep (h.own i hi) h.row (by decide) j hj (by rw [hq, h1])
  · intro i j hi hj hij
    rw [List.length_set] at hi hj
    rw [gv, gv]
    have key : ∀ a, a < qs.length → a ≠ k → sep (iv.getD a nilS) v' := by
      intro a ha hak b hb1 hb2
      rcases hv with e | ⟨g, e, hg⟩
      · exact h.apart a k ha hk hak b hb1 (by rw [← e]; exact hb2)
      · rw [e] at hb2
        cases hb2
        have := hlt a ha _ hb1
        omega
    by_cases e1 : i = k
    · rw [if_pos e1, if_neg (by omega)]; exact (key j hj (by omega)).symm
    · rw [if_neg e1]
      by_cases e2 : j = k
      · rw [if_pos e2]; exact key i hi e1
      · rw [if_neg e2]; exact h.apart i j hi hj hij
end

/-- AN offerTree, its ranks left out. -/
structure Tree where
  lv : Nat
  off : List (List Held)
  oAt : List Int
  hd : List (List Held)
  st : List (Int × Int)
  sAt : List Int
  so : List (Int × Int)

/-- Where it lies. -/
structure Lay where
  vO : Value
  vA : Value
  vH : Value
  vS : Value
  vSA : Value
  vSO : Value
  iO : List Value
  iH : List Value

structure TS (w : World) (base tb : Nat) (T : Tree) (l : Lay) : Prop where
  tt : ∃ c, w.heap[tb]? = some (.cells c 61 (0, 0))
  lo : base ≤ tb
  c0 : w.cell? ⟨tb, 0, none⟩ = some (.int .i64 (T.lv : Int))
  c4 : w.cell? ⟨tb, 4, none⟩ = some l.vO
  c5 : w.cell? ⟨tb, 5, none⟩ = some l.vA
  c6 : w.cell? ⟨tb, 6, none⟩ = some l.vH
  c7 : w.cell? ⟨tb, 7, none⟩ = some l.vS
  c8 : w.cell? ⟨tb, 8, none⟩ = some l.vSA
  c9 : w.cell? ⟨tb, 9, none⟩ = some l.vSO
  offs : QR w base tb 5 l.vO l.iO T.off
  heads : QR w base tb 8 l.vH l.iH T.hd
  rA : w.ownsRow base 3 1 l.vA T.oAt.length (ints T.oAt)
  rSA : w.ownsRow base 3 1 l.vSA T.sAt.length (ints T.sAt)
  rS : w.ownsRow base 75 2 l.vS T.st.length (pairs T.st)
  rSO : w.ownsRow base 56 2 l.vSO T.so.length (pairs T.so)
  sA : sep l.vA l.vSA
  sQ : sep l.vO l.vH
  sI : ∀ i j, i < T.off.length → j < T.hd.length → sep (l.iO.getD i nilS) (l.iH.getD j nilS)

theorem own_tb {w : World} {base size n tb : Nat} {e : TypeId} {v : Value} {xs : List Value} (h : w.ownsRow base e size v n xs) (ht : ∃ c, w.heap[tb]? = some (.cells c 61 (0, 0))) (he : e ≠ 61) : v.ownBlock ≠ some tb := by
  obtain ⟨c, hc⟩ := ht
  exact own_ne h hc (fun x => he x.symm)

/-- What turns only blocks that the tree does not own leaves it as it is. -/
theorem TS.keep {w w' : World} {base tb : Nat} {T : Tree} {l : Lay} {S : Nat → Prop} (h : TS w base tb T l) (ht : Touch S w w') (hS : ∀ k, base ≤ k → k < w.heap.size → ¬ S k) : TS w' base tb T l := by
  have ob : ∀ {e size n xs} {u : Value}, w.ownsRow base e size u n xs → ∀ k, u.ownBlock = some k → ¬ S k := fun hu k hk => hS k (hu.lt k hk).1 (hu.lt k hk).2
  obtain ⟨c, hc⟩ := h.tt
  have ltb := (Array.getElem?_eq_some_iff.1 hc).1
  have et : w'.heap[tb]? = w.heap[tb]? := ht.block tb ltb (hS tb h.lo ltb)
  have ce : ∀ j, w'.cell? ⟨tb, j, none⟩ = w.cell? ⟨tb, j, none⟩ := fun j => World.cell?_of_block (a := ⟨tb, j, none⟩) et
  exact ⟨⟨c, et.trans hc⟩, h.lo, (ce 0).trans h.c0, (ce 4).trans h.c4, (ce 5).trans h.c5, (ce 6).trans h.c6, (ce 7).trans h.c7, (ce 8).trans h.c8, (ce 9).trans h.c9,
    h.offs.keep ht (ob h.offs.row) (fun i hi => ob (h.offs.own i hi)), h.heads.keep ht (ob h.heads.row) (fun i hi => ob (h.heads.own i hi)),
    own_keep h.rA ht (ob h.rA), own_keep h.rSA ht (ob h.rSA), own_keep h.rS ht (ob h.rS), own_keep h.rSO ht (ob h.rSO), h.sA, h.sQ, h.sI⟩

theorem TS.below {w w' : World} {base tb : Nat} {T : Tree} {l : Lay} (h : TS w base tb T l) (hb : Below w.heap.size w w') : TS w' base tb T l :=
  h.keep (S := fun _ => False) (Touch.below hb) (fun _ _ _ x => x)
theorem TS.drew {w : World} {base tb : Nat} {T : Tree} {l : Lay} (h : TS w base tb T l) : TS w.drew base tb T l :=
  h.keep (S := fun _ => False) ((Touch.refl _ w).drew) (fun _ _ _ x => x)

/-- An offer's queue has turned. -/
theorem TS.updO {w w' : World} {base tb qb k : Nat} {T : Tree} {l : Lay} (h : TS w base tb T l) (hq : l.vO.ownBlock = some qb) (hk : k < T.off.length) {v' : Value} {it' : List Held} {at' : List Int}
    (ht : Touch (fun j => qblocks (l.iO.getD k nilS) l.vA j ∨ j = qb) w w') (hs : qset w w' qb (k * 2) v') (hQ : QS w' base qb (k * 2) tb 5 v' l.vA ⟨it', at'⟩)
    (hv : v'.ownBlock = (l.iO.getD k nilS).ownBlock ∨ ∃ g, v'.ownBlock = some g ∧ w.heap.size ≤ g) :
    TS w' base tb { T with off := T.off.set k it', oAt := at' } { l with iO := l.iO.set k v' } := by
  have hQ0 := h.offs.queue hq hk h.c5 h.rA h.tt
  obtain ⟨c, hc⟩ := h.tt
  have ltb := (Array.getElem?_eq_some_iff.1 hc).1
  have et : w'.heap[tb]? = w.heap[tb]? := ht.block tb ltb (by
    rintro ((e | e) | e)
    · exact hQ0.vt e
    · exact hQ0.at' e
    · exact hQ0.qt e.symm)
  have ce : ∀ j, w'.cell? ⟨tb, j, none⟩ = w.cell? ⟨tb, j, none⟩ := fun j => World.cell?_of_block (a := ⟨tb, j, none⟩) et
  have kp : ∀ {e size n xs} {u : Value}, w.ownsRow base e size u n xs → sep u (l.iO.getD k nilS) → sep u l.vA → sep u l.vO → w'.ownsRow base e size u n xs := by
    intro e size n xs u hu s1 s2 s3
    refine own_keep hu ht ?_
    rintro j hj ((h1 | h1) | h1)
    · exact s1 j hj h1
    · exact s2 j hj h1
    · exact s3 j hj (by rw [hq, h1])
  have ho := h.offs.own k hk
  refine ⟨⟨c, et.trans hc⟩, h.lo, (ce 0).trans h.c0, (ce 4).trans h.c4, (ce 5).trans h.c5, (ce 6).trans h.c6, (ce 7).trans h.c7, (ce 8).trans h.c8, (ce 9).trans h.c9,
    h.offs.upd hq hk h.rA ht hs hQ.own hv, ?_, hQ.ats, ?_, ?_, ?_, h.sA, h.sQ, ?_⟩
  · refine h.heads.keep ht ?_ ?_
    · rintro j hj ((h1 | h1) | h1)
      · exact own_sep h.heads.row ho (by decide) j hj h1
      · exact own_sep h.heads.row h.rA (by decide) j hj h1
      · exact h.sQ j (by rw [hq, h1]) hj
    · rintro i hi j hj ((h1 | h1) | h1)
      · exact h.sI k i hk hi j h1 hj
      · exact own_sep (h.heads.own i hi) h.rA (by decide) j hj h1
      · exact own_sep (h.heads.own i hi) h.offs.row (by decide) j hj (by rw [hq, h1])
  · exact kp h.rSA (own_sep h.rSA ho (by decide)) h.sA.symm (own_sep h.rSA h.offs.row (by decide))
  · exact kp h.rS (own_sep h.rS ho (by decide)) (own_sep h.rS h.rA (by decide)) (own_sep h.rS h.offs.row (by decide))
  · exact kp h.rSO (own_sep h.rSO ho (by decide)) (own_sep h.rSO h.rA (by decide)) (own_sep h.rSO h.offs.row (by decide))
  · intro i j hi hj
    rw [List.length_set] at hi
    have : (l.iO.set k v').getD i nilS = if i = k then v' else l.iO.getD i nilS := by
      simp only [List.getD, List.getElem?_set]
      by_cases e : k = i
      · subst e; simp [h.offs.len, hk]
      · rw [if_neg e, if_neg (Ne.symm e)]
    rw [this]
    by_cases e : i = k
    · rw [if_pos e]
      intro b hb1 hb2
      rcases hv with e1 | ⟨g, e1, hg⟩
      · exact h.sI k j hk hj b (by rw [← e1]; exact hb1) hb2
      · rw [e1] at hb1
        have := ((h.heads.own j hj).lt b hb2).2
        cases hb1
        omega
    · rw [if_neg e]; exact h.sI i j hi hj
end Go.Proofs.Ybulkcmtm
