/- A RANKED QUEUE AS IT LIES IN MEMORY. -/
import Derived.Test.YbulkcmtmPure
import Derived.Laws.AppendOwn
import Derived.Deep.AppendLies
import Derived.RangeFuncBox
namespace Go.Proofs.Ybulkcmtm
open Go.RowKit

def flat (l : List Held) : List Value := l.flatMap fun h => [.int .i64 (h.n : Int), .int .i64 h.p, .int .i64 h.q]
def ints (l : List Int) : List Value := l.map (Value.int .i64)

@[simp] theorem flat_length (l : List Held) : (flat l).length = l.length * 3 := by
  induction l with
  | nil => rfl
  | cons x xs ih => simp [flat] at ih ⊢; omega
@[simp] theorem ints_length (l : List Int) : (ints l).length = l.length := by simp [ints]

theorem flat_cons (x : Held) (l : List Held) : flat (x :: l) = .int .i64 (x.n : Int) :: .int .i64 x.p :: .int .i64 x.q :: flat l := by simp [flat]
theorem flat_append (a b : List Held) : flat (a ++ b) = flat a ++ flat b := by simp [flat]

theorem flat_get (l : List Held) (i : Nat) (h : i < l.length) : (flat l)[i * 3]? = some (.int .i64 (l[i].n : Int)) ∧ (flat l)[i * 3 + 1]? = some (.int .i64 l[i].p) ∧ (flat l)[i * 3 + 2]? = some (.int .i64 l[i].q) := by
  induction l generalizing i with
  | nil => simp at h
  | cons x xs ih =>
    rw [flat_cons]
    cases i with
    | zero => simp
    | succ i =>
      have := ih i (by simpa using h)
      rw [show (i + 1) * 3 = i * 3 + 1 + 1 + 1 by omega]
      simpa using this

theorem flat_set (l : List Held) (i : Nat) (x : Held) : flat (l.set i x) = (((flat l).set (i * 3) (.int .i64 (x.n : Int))).set (i * 3 + 1) (.int .i64 x.p)).set (i * 3 + 2) (.int .i64 x.q) := by
  induction l generalizing i with
  | nil => simp [flat]
  | cons y ys ih =>
    cases i with
    | zero => simp [flat_cons]
    | succ i =>
      rw [show (i + 1) * 3 = i * 3 + 1 + 1 + 1 by omega, List.set_cons_succ, flat_cons, flat_cons, ih]
      simp

theorem flat_dropLast (l : List Held) : flat l.dropLast = (flat l).take ((l.length - 1) * 3) := by
  rcases List.eq_nil_or_concat l with rfl | ⟨xs, x, rfl⟩
  · simp [flat]
  · simp [flat_append]

theorem ints_set (l : List Int) (i : Nat) (x : Int) : ints (l.set i x) = (ints l).set i (.int .i64 x) := by simp [ints, List.map_set]

/-- A cell of an own row is written. -/
theorem own_set {w : World} {base : Nat} {e : TypeId} {size : Nat} {v : Value} {n g : Nat} {xs : List Value} (h : w.ownsRow base e size v n xs) (hg : v.ownBlock = some g) (j : Nat) (u : Value) :
    (w.setCell ⟨g, j, none⟩ u).ownsRow base e size v n (xs.set j u) := by
  refine ⟨by rw [List.length_set]; exact h.1, ?_⟩
  rcases h.2 with ⟨rfl, _⟩ | ⟨g', cap, cur, rfl, hb, hk, h1, h2, h3, h4⟩
  · simp [Value.ownBlock] at hg
  · obtain rfl : g' = g := by simpa [Value.ownBlock] using hg
    refine .inr ⟨g', cap, cur.setIfInBounds j u, rfl, hb, ?_, h1, h2, by simpa using h3, ?_⟩
    · show (w.heap.modify g' _)[g']? = _
      rw [Array.getElem?_modify, if_pos rfl, hk]
      simp
    · rw [← h4, Array.toList_setIfInBounds, List.take_set]

/-- WHICH BLOCKS MAY HAVE TURNED. -/
structure Touch (S : Nat → Prop) (w w' : World) : Prop where
  os : w'.os = w.os
  tape : w'.tape = w.tape
  output : w'.output = w.output
  size : w.heap.size ≤ w'.heap.size
  block : ∀ k, k < w.heap.size → ¬ S k → w'.heap[k]? = w.heap[k]?

namespace Touch
variable {S S' : Nat → Prop} {a b c : World}
theorem refl (S : Nat → Prop) (w : World) : Touch S w w := ⟨rfl, rfl, rfl, Nat.le_refl _, fun _ _ _ => rfl⟩
theorem trans (h : Touch S a b) (k : Touch S b c) : Touch S a c :=
  ⟨k.os.trans h.os, k.tape.trans h.tape, k.output.trans h.output, Nat.le_trans h.size k.size, fun i hi hs => (k.block i (Nat.lt_of_lt_of_le hi h.size) hs).trans (h.block i hi hs)⟩
theorem mono (h : Touch S a b) (hs : ∀ k, S k → S' k) : Touch S' a b := ⟨h.os, h.tape, h.output, h.size, fun k hk hn => h.block k hk fun x => hn (hs k x)⟩
theorem below (h : Below a.heap.size a b) : Touch S a b := ⟨h.os, h.tape, h.output, h.size, fun k hk _ => h.block k hk⟩
theorem set (h : Touch S a b) {p : Addr} (hp : S p.block) (v : Value) : Touch S a (b.setCell p v) :=
  ⟨h.os, h.tape, h.output, by simpa using h.size, fun k hk hn => (Below.heap_setCell b p v k (fun e => hn (e ▸ hp))).trans (h.block k hk hn)⟩
theorem drew (h : Touch S a b) : Touch S a b.drew := ⟨h.os, h.tape, h.output, h.size, h.block⟩
theorem grown {row : Option Nat} (h : Touch S a b) (hg : b.grownBy c row) (hr : ∀ k, row = some k → S k) : Touch S a c :=
  ⟨hg.os.trans h.os, hg.tape.trans h.tape, hg.output.trans h.output, Nat.le_trans h.size hg.size, fun k hk hn => (hg.block k (Nat.lt_of_lt_of_le hk h.size) (fun e => hn (hr k e.symm))).trans (h.block k hk hn)⟩
theorem toBelow {B : Nat} (h : Touch S a b) (hs : ∀ k, S k → B ≤ k) (hB : B ≤ a.heap.size) : Below B a b :=
  ⟨h.os, h.tape, h.output, h.size, fun k hk => h.block k (by omega) fun x => by have := hs k x; omega⟩
end Touch

structure QS (w : World) (base qb qo tb ao : Nat) (v va : Value) (s : Qu) : Prop where
  it : w.cell? ⟨qb, qo, none⟩ = some v
  atp : w.cell? ⟨qb, qo + 1, none⟩ = some (.pointer (some ⟨tb, ao, none⟩))
  sl : w.cell? ⟨tb, ao, none⟩ = some va
  own : w.ownsRow base 72 3 v s.it.length (flat s.it)
  ats : w.ownsRow base 3 1 va s.at_.length (ints s.at_)
  tq : ∃ c, w.heap[qb]? = some (.cells c 68 (0, 0))
  tt : ∃ c, w.heap[tb]? = some (.cells c 61 (0, 0))

section
variable {w : World} {base qb qo tb ao : Nat} {v va : Value} {s : Qu}

/-- The blocks of a queue that its operations turn. -/
def qblocks (v va : Value) (k : Nat) : Prop := v.ownBlock = some k ∨ va.ownBlock = some k

theorem own_ne {w : World} {base size n : Nat} {e e' : TypeId} {v : Value} {xs : List Value} {b : Nat} {c : Array Value} {fr : Nat × Nat} (h : w.ownsRow base e size v n xs) (hb : w.heap[b]? = some (.cells c e' fr)) (he : e' ≠ e) : v.ownBlock ≠ some b := by
  rcases h.2 with ⟨rfl, _⟩ | ⟨g, cap, cur, rfl, _, hgb, _⟩
  · simp [Value.ownBlock]
  · intro e1
    obtain rfl : g = b := by simpa [Value.ownBlock] using e1
    rw [hb] at hgb
    cases hgb
    exact he rfl

theorem QS.vq (h : QS w base qb qo tb ao v va s) : v.ownBlock ≠ some qb := by obtain ⟨c, hc⟩ := h.tq; exact own_ne h.own hc (by decide)
theorem QS.vt (h : QS w base qb qo tb ao v va s) : v.ownBlock ≠ some tb := by obtain ⟨c, hc⟩ := h.tt; exact own_ne h.own hc (by decide)
theorem QS.aq (h : QS w base qb qo tb ao v va s) : va.ownBlock ≠ some qb := by obtain ⟨c, hc⟩ := h.tq; exact own_ne h.ats hc (by decide)
theorem QS.at' (h : QS w base qb qo tb ao v va s) : va.ownBlock ≠ some tb := by obtain ⟨c, hc⟩ := h.tt; exact own_ne h.ats hc (by decide)
theorem QS.qt (h : QS w base qb qo tb ao v va s) : qb ≠ tb := by
  obtain ⟨c, hc⟩ := h.tq; obtain ⟨c', hc'⟩ := h.tt
  rintro rfl
  rw [hc] at hc'; cases hc'
theorem QS.va' (h : QS w base qb qo tb ao v va s) {g : Nat} (hg : v.ownBlock = some g) : va.ownBlock ≠ some g := by
  rcases h.own.2 with ⟨rfl, _⟩ | ⟨g', cap, cur, rfl, _, hgb, _⟩
  · simp [Value.ownBlock] at hg
  · obtain rfl : g' = g := by simpa [Value.ownBlock] using hg
    exact own_ne h.ats hgb (by decide)

/-- What lies elsewhere has not turned. -/
theorem QS.keep {w' : World} {S : Nat → Prop} (h : QS w base qb qo tb ao v va s) (ht : Touch S w w') (h1 : ¬ S qb) (h2 : ¬ S tb) (h3 : ∀ k, v.ownBlock = some k → ¬ S k) (h4 : ∀ k, va.ownBlock = some k → ¬ S k) : QS w' base qb qo tb ao v va s := by
  obtain ⟨c, hc⟩ := h.tq
  obtain ⟨c', hc'⟩ := h.tt
  have eq : w'.heap[qb]? = w.heap[qb]? := ht.block _ (Array.getElem?_eq_some_iff.1 hc).1 h1
  have et : w'.heap[tb]? = w.heap[tb]? := ht.block _ (Array.getElem?_eq_some_iff.1 hc').1 h2
  have own_keep : ∀ {e size n xs} {u : Value}, w.ownsRow base e size u n xs → (∀ k, u.ownBlock = some k → ¬ S k) → w'.ownsRow base e size u n xs := by
    intro e size n xs u hu hn
    refine ⟨hu.1, ?_⟩
    rcases hu.2 with ⟨rfl, h0⟩ | ⟨g, cap, cur, rfl, hb, hk, r⟩
    · exact .inl ⟨rfl, h0⟩
    · exact .inr ⟨g, cap, cur, rfl, hb, (ht.block _ (Array.getElem?_eq_some_iff.1 hk).1 (hn g rfl)).trans hk, r⟩
  exact ⟨(World.cell?_of_block (a := ⟨qb, qo, none⟩) eq).trans h.it, (World.cell?_of_block (a := ⟨qb, qo + 1, none⟩) eq).trans h.atp, (World.cell?_of_block (a := ⟨tb, ao, none⟩) et).trans h.sl,
    own_keep h.own h3, own_keep h.ats h4, ⟨c, eq.trans hc⟩, ⟨c', et.trans hc'⟩⟩

theorem add0 (g j : Nat) : (⟨g, 0, none⟩ : Addr).add j = ⟨g, j, none⟩ := by
  unfold Addr.add; split
  · subst_vars; rfl
  · simp

theorem own_frozen {w : World} {base size n g : Nat} {e : TypeId} {v : Value} {xs : List Value} (h : w.ownsRow base e size v n xs) (hg : v.ownBlock = some g) (o : Nat) : w.frozen? ⟨g, o, none⟩ = false := by
  rcases h.2 with ⟨rfl, _⟩ | ⟨g', cap, cur, rfl, _, hgb, _⟩
  · simp [Value.ownBlock] at hg
  · obtain rfl : g' = g := by simpa [Value.ownBlock] using hg
    simp [World.frozen?, hgb]

theorem own_cell {w : World} {base size n g : Nat} {e : TypeId} {v u : Value} {xs : List Value} (h : w.ownsRow base e size v n xs) (hg : v.ownBlock = some g) {j : Nat} (hj : xs[j]? = some u) : w.cell? ⟨g, j, none⟩ = some u := by
  rw [← add0]; exact h.cells hg j u hj

theorem QS.item (h : QS w base qb qo tb ao v va s) {g : Nat} (hg : v.ownBlock = some g) {i : Nat} (hi : i < s.it.length) :
    w.cell? ⟨g, i * 3, none⟩ = some (.int .i64 ((s.g i).n : Int)) ∧ w.cell? ⟨g, i * 3 + 1, none⟩ = some (.int .i64 (s.g i).p) ∧ w.cell? ⟨g, i * 3 + 2, none⟩ = some (.int .i64 (s.g i).q) := by
  obtain ⟨f1, f2, f3⟩ := flat_get s.it i hi
  rw [s.g_lt hi]
  exact ⟨own_cell h.own hg f1, own_cell h.own hg f2, own_cell h.own hg f3⟩

theorem QS.place (h : QS w base qb qo tb ao v va s) {g : Nat} (hg : va.ownBlock = some g) {i : Nat} {x : Int} (hi : s.at_[i]? = some x) : w.cell? ⟨g, i, none⟩ = some (.int .i64 x) :=
  own_cell h.ats hg (by simp [ints, hi])

theorem own_other {w : World} {base size n b : Nat} {e : TypeId} {v u : Value} {xs : List Value} (h : w.ownsRow base e size v n xs) (hne : v.ownBlock ≠ some b) (j : Nat) : (w.setCell ⟨b, j, none⟩ u).ownsRow base e size v n xs := by
  refine ⟨h.1, ?_⟩
  rcases h.2 with ⟨rfl, h0⟩ | ⟨g, cap, cur, rfl, hb, hk, r⟩
  · exact .inl ⟨rfl, h0⟩
  · exact .inr ⟨g, cap, cur, rfl, hb, (Below.heap_setCell _ _ _ _ (fun e => hne (by simp [Value.ownBlock, e]))).trans hk, r⟩

/-- A cell of the items is written: 'its' is what the row then holds. -/
theorem QS.setIt (h : QS w base qb qo tb ao v va s) {g : Nat} (hg : v.ownBlock = some g) (a : Nat) (x : Held) :
    QS (((w.setCell ⟨g, a * 3, none⟩ (.int .i64 (x.n : Int))).setCell ⟨g, a * 3 + 1, none⟩ (.int .i64 x.p)).setCell ⟨g, a * 3 + 2, none⟩ (.int .i64 x.q)) base qb qo tb ao v va ⟨s.it.set a x, s.at_⟩ := by
  have e1 : g ≠ qb := fun e => h.vq (by rw [hg, e])
  have e2 : g ≠ tb := fun e => h.vt (by rw [hg, e])
  have hb : ∀ b, b ≠ g → (((w.setCell ⟨g, a * 3, none⟩ (.int .i64 (x.n : Int))).setCell ⟨g, a * 3 + 1, none⟩ (.int .i64 x.p)).setCell ⟨g, a * 3 + 2, none⟩ (.int .i64 x.q)).heap[b]? = w.heap[b]? := fun b hb => by
    rw [Below.heap_setCell _ _ _ _ hb, Below.heap_setCell _ _ _ _ hb, Below.heap_setCell _ _ _ _ hb]
  obtain ⟨c, hc⟩ := h.tq
  obtain ⟨c', hc'⟩ := h.tt
  have ea := h.va' hg
  refine ⟨(World.cell?_of_block (a := ⟨qb, qo, none⟩) (hb qb e1.symm)).trans h.it, (World.cell?_of_block (a := ⟨qb, qo + 1, none⟩) (hb qb e1.symm)).trans h.atp, (World.cell?_of_block (a := ⟨tb, ao, none⟩) (hb tb e2.symm)).trans h.sl, ?_, ?_,
    ⟨c, (hb qb e1.symm).trans hc⟩, ⟨c', (hb tb e2.symm).trans hc'⟩⟩
  · simp only [List.length_set]
    rw [flat_set]
    exact own_set (own_set (own_set h.own hg _ _) hg _ _) hg _ _
  · exact own_other (own_other (own_other h.ats ea _) ea _) ea _

theorem QS.setAt (h : QS w base qb qo tb ao v va s) {g : Nat} (hg : va.ownBlock = some g) (i : Nat) (x : Int) :
    QS (w.setCell ⟨g, i, none⟩ (.int .i64 x)) base qb qo tb ao v va ⟨s.it, s.at_.set i x⟩ := by
  have e1 : g ≠ qb := fun e => h.aq (by rw [hg, e])
  have e2 : g ≠ tb := fun e => h.at' (by rw [hg, e])
  have hb : ∀ b, b ≠ g → (w.setCell ⟨g, i, none⟩ (.int .i64 x)).heap[b]? = w.heap[b]? := fun b hb => Below.heap_setCell _ _ _ _ hb
  obtain ⟨c, hc⟩ := h.tq
  obtain ⟨c', hc'⟩ := h.tt
  refine ⟨(World.cell?_of_block (a := ⟨qb, qo, none⟩) (hb qb e1.symm)).trans h.it, (World.cell?_of_block (a := ⟨qb, qo + 1, none⟩) (hb qb e1.symm)).trans h.atp, (World.cell?_of_block (a := ⟨tb, ao, none⟩) (hb tb e2.symm)).trans h.sl, ?_, ?_,
    ⟨c, (hb qb e1.symm).trans hc⟩, ⟨c', (hb tb e2.symm).trans hc'⟩⟩
  · exact own_other h.own (fun e => h.va' e hg) _
  · simp only [List.length_set]
    rw [ints_set]
    exact own_set h.ats hg _ _

theorem QS.drew (h : QS w base qb qo tb ao v va s) : QS w.drew base qb qo tb ao v va s := ⟨h.it, h.atp, h.sl, h.own, h.ats, h.tq, h.tt⟩
theorem QS.below {w' : World} (h : QS w base qb qo tb ao v va s) (hb : Below w.heap.size w w') : QS w' base qb qo tb ao v va s :=
  h.keep (S := fun _ => False) (Touch.below hb) (fun x => x) (fun x => x) (fun _ _ x => x) (fun _ _ x => x)
end
end Go.Proofs.Ybulkcmtm
