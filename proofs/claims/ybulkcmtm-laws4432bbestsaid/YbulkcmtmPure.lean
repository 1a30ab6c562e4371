/- A RANKED QUEUE AS PLAIN LEAN: its items, and where each stands. No Go in sight. -/
import Derived.Test.YbulkcmtmLess
namespace Go.Proofs.Ybulkcmtm

/-- An item of a queue: its number, its rank. -/
structure Held where
  n : Nat
  p : Int
  q : Int

/-- A queue: its items; by item's number: its place, or -1. -/
structure Qu where
  it : List Held
  at_ : List Int

namespace Qu
def g (s : Qu) (i : Nat) : Held := s.it.getD i ⟨0, 0, 0⟩
/-- Less(a, b): b ranks below a. -/
def less (s : Qu) (a b : Nat) : Bool := lower (s.g b).p (s.g b).q (s.g a).p (s.g a).q
def swp (s : Qu) (a b : Nat) : Qu := ⟨(s.it.set a (s.g b)).set b (s.g a), (s.at_.set (s.g b).n (a : Int)).set (s.g a).n (b : Int)⟩

/-- Each item's place is told. -/
def WF (s : Qu) : Prop := ∀ i, i < s.it.length → (s.g i).n < s.at_.length ∧ s.at_[(s.g i).n]? = some (i : Int)

theorem g_lt (s : Qu) {i : Nat} (h : i < s.it.length) : s.g i = s.it[i] := by simp [g, List.getD, h]

theorem WF.inj {s : Qu} (h : s.WF) {i j : Nat} (hi : i < s.it.length) (hj : j < s.it.length) (e : (s.g i).n = (s.g j).n) : i = j := by
  have h1 := (h i hi).2
  have h2 := (h j hj).2
  rw [e, h2] at h1
  have := Option.some.inj h1
  omega

@[simp] theorem swp_len (s : Qu) (a b : Nat) : (s.swp a b).it.length = s.it.length := by simp [swp]
@[simp] theorem swp_alen (s : Qu) (a b : Nat) : (s.swp a b).at_.length = s.at_.length := by simp [swp]

theorem swp_g (s : Qu) {a b i : Nat} (ha : a < s.it.length) (hb : b < s.it.length) : (s.swp a b).g i = if i = b then s.g a else if i = a then s.g b else s.g i := by
  simp only [swp, g, List.getD, List.getElem?_set, List.length_set]
  by_cases e1 : b = i
  · subst e1; simp [hb, ha]
  · rw [if_neg e1, if_neg (Ne.symm e1)]
    by_cases e2 : a = i
    · subst e2; simp [ha, hb]
    · rw [if_neg e2, if_neg (Ne.symm e2)]

theorem swp_wf {s : Qu} (h : s.WF) {a b : Nat} (ha : a < s.it.length) (hb : b < s.it.length) (hab : a ≠ b) : (s.swp a b).WF := by
  intro i hi
  rw [swp_len] at hi
  rw [swp_g s ha hb, swp_alen]
  have hna := h a ha
  have hnb := h b hb
  have hne : (s.g a).n ≠ (s.g b).n := fun e => hab (h.inj ha hb e)
  by_cases e1 : i = b
  · rw [if_pos e1, e1]
    refine ⟨hna.1, ?_⟩
    simp [swp, hna.1]
  · rw [if_neg e1]
    by_cases e2 : i = a
    · rw [if_pos e2, e2]
      refine ⟨hnb.1, ?_⟩
      simp [swp, hne, hnb.1]
    · rw [if_neg e2]
      have hni := h i hi
      refine ⟨hni.1, ?_⟩
      have n1 : (s.g a).n ≠ (s.g i).n := fun e => e2 (h.inj hi ha e.symm)
      have n2 : (s.g b).n ≠ (s.g i).n := fun e => e1 (h.inj hi hb e.symm)
      simp [swp, n1, n2, hni.2]

/-- WHAT EVERY OPERATION THAT ONLY PUTS ITEMS INTO ANOTHER ORDER KEEPS. -/
structure Same (s s' : Qu) : Prop where
  perm : s'.it.Perm s.it
  alen : s'.at_.length = s.at_.length
  wf : s'.WF
  out : ∀ n, (∀ h ∈ s.it, h.n ≠ n) → s'.at_[n]? = s.at_[n]?

theorem Same.refl {s : Qu} (h : s.WF) : Same s s := ⟨List.Perm.refl _, rfl, h, fun _ _ => rfl⟩
theorem Same.trans {a b c : Qu} (h : Same a b) (k : Same b c) : Same a c :=
  ⟨k.perm.trans h.perm, k.alen.trans h.alen, k.wf, fun n hn => (k.out n fun x hx => hn x (h.perm.mem_iff.1 hx)).trans (h.out n hn)⟩
theorem Same.len {s s' : Qu} (h : Same s s') : s'.it.length = s.it.length := h.perm.length_eq

theorem g_mem (s : Qu) {i : Nat} (h : i < s.it.length) : s.g i ∈ s.it := by rw [g_lt s h]; exact List.getElem_mem h

theorem swp_perm (s : Qu) {a b : Nat} (ha : a < s.it.length) (hb : b < s.it.length) : (s.swp a b).it.Perm s.it := by
  have : (s.swp a b).it = (s.it.set a s.it[b]).set b s.it[a] := by simp [swp, g_lt, ha, hb]
  rw [this]
  exact List.set_set_perm ha hb

theorem swp_same {s : Qu} (h : s.WF) {a b : Nat} (ha : a < s.it.length) (hb : b < s.it.length) (hab : a ≠ b) : Same s (s.swp a b) := by
  refine ⟨swp_perm s ha hb, swp_alen _ _ _, swp_wf h ha hb hab, fun n hn => ?_⟩
  have n1 := hn _ (g_mem s ha)
  have n2 := hn _ (g_mem s hb)
  simp [swp, n1, n2]

/-- container/heap.up -/
def up (s : Qu) (j : Nat) : Qu :=
  if h : j = 0 then s else if s.less j ((j - 1) / 2) then up (s.swp ((j - 1) / 2) j) ((j - 1) / 2) else s
termination_by j
decreasing_by omega

theorem up_same {s : Qu} (h : s.WF) (j : Nat) (hj : j < s.it.length) : Same s (s.up j) := by
  induction j using Nat.strongRecOn generalizing s with
  | _ j ih =>
    rw [up]
    by_cases h0 : j = 0
    · rw [dif_pos h0]; exact Same.refl h
    · rw [dif_neg h0]
      split
      · have h1 := swp_same h (show (j - 1) / 2 < s.it.length by omega) hj (by omega)
        exact h1.trans (ih _ (by omega) h1.wf (by rw [swp_len]; omega))
      · exact Same.refl h

/-- The child that container/heap.down looks at. -/
def child (s : Qu) (i n : Nat) : Nat := if 2 * i + 2 < n ∧ s.less (2 * i + 2) (2 * i + 1) = true then 2 * i + 2 else 2 * i + 1

theorem child_or (s : Qu) (i n : Nat) : s.child i n = 2 * i + 1 ∨ s.child i n = 2 * i + 2 := by unfold child; split <;> simp
theorem child_lt (s : Qu) {i n : Nat} (h : 2 * i + 1 < n) : s.child i n < n := by unfold child; split <;> omega

/-- container/heap.down: the queue, and where the item came to rest. -/
def down (s : Qu) (i n : Nat) : Qu × Nat :=
  if _h : 2 * i + 1 < n then (if s.less (s.child i n) i then down (s.swp i (s.child i n)) (s.child i n) n else (s, i)) else (s, i)
termination_by n - i
decreasing_by
  rcases child_or s i n with e | e <;> rw [e] <;> omega

theorem down_same {s : Qu} (h : s.WF) (i n : Nat) (hn : n ≤ s.it.length) : Same s (s.down i n).1 := by
  generalize hm : n - i = m
  induction m using Nat.strongRecOn generalizing s i with
  | _ m ih =>
    rw [down]
    by_cases h0 : 2 * i + 1 < n
    · rw [dif_pos h0]
      split
      · have hc := child_lt s h0
        have hgt : i < s.child i n := by rcases child_or s i n with e | e <;> omega
        have h1 := swp_same h (show i < s.it.length by omega) (show s.child i n < s.it.length by omega) (by omega)
        exact h1.trans (ih (n - s.child i n) (by omega) h1.wf _ (by rw [swp_len]; exact hn) rfl)
      · exact Same.refl h
    · rw [dif_neg h0]; exact Same.refl h

theorem down_ge (s : Qu) (i n : Nat) : i ≤ (s.down i n).2 := by
  generalize hm : n - i = m
  induction m using Nat.strongRecOn generalizing s i with
  | _ m ih =>
    rw [down]
    by_cases h0 : 2 * i + 1 < n
    · rw [dif_pos h0]
      split
      · have hc := child_lt s h0
        have hgt : i < s.child i n := by rcases child_or s i n with e | e <;> omega
        have := ih (n - s.child i n) (by omega) (s.swp i (s.child i n)) _ rfl
        omega
      · exact Nat.le_refl _
    · rw [dif_neg h0]; exact Nat.le_refl _

/-- (*ranked).Push -/
def push (s : Qu) (h : Held) : Qu := ⟨s.it ++ [h], s.at_.set h.n (s.it.length : Int)⟩
/-- (*ranked).Pop -/
def pop (s : Qu) : Qu := ⟨s.it.dropLast, s.at_.set (s.g (s.it.length - 1)).n (-1)⟩
/-- container/heap.Push -/
def hpush (s : Qu) (h : Held) : Qu := (s.push h).up s.it.length
/-- container/heap.Fix -/
def fix (s : Qu) (i : Nat) : Qu := if (s.down i s.it.length).2 > i then (s.down i s.it.length).1 else (s.down i s.it.length).1.up i
/-- container/heap.Remove, up to the Pop. -/
def sink (s : Qu) (i : Nat) : Qu :=
  if s.it.length - 1 = i then s
  else if ((s.swp i (s.it.length - 1)).down i (s.it.length - 1)).2 > i then ((s.swp i (s.it.length - 1)).down i (s.it.length - 1)).1
  else ((s.swp i (s.it.length - 1)).down i (s.it.length - 1)).1.up i
def remove (s : Qu) (i : Nat) : Qu := (s.sink i).pop

theorem push_wf {s : Qu} (h : s.WF) {x : Held} (hx : x.n < s.at_.length) (hn : ∀ y ∈ s.it, y.n ≠ x.n) : (s.push x).WF := by
  intro i hi
  simp only [push, List.length_append, List.length_cons, List.length_nil] at hi
  by_cases e : i = s.it.length
  · subst e
    simp [push, g, hx]
  · have hlt : i < s.it.length := by omega
    have eg : (s.push x).g i = s.g i := by simp [push, g, List.getD, List.getElem?_append_left hlt]
    rw [eg]
    have := h i hlt
    refine ⟨by simpa [push] using this.1, ?_⟩
    have hne := hn _ (g_mem s hlt)
    simp [push, Ne.symm hne, this.2]

theorem hpush_same {s : Qu} (h : s.WF) {x : Held} (hx : x.n < s.at_.length) (hn : ∀ y ∈ s.it, y.n ≠ x.n) : Same (s.push x) (s.hpush x) :=
  up_same (push_wf h hx hn) _ (by simp [push])

theorem fix_same {s : Qu} (h : s.WF) {i : Nat} (hi : i < s.it.length) : Same s (s.fix i) := by
  unfold fix
  have h1 := down_same h i s.it.length (Nat.le_refl _)
  split
  · exact h1
  · exact h1.trans (up_same h1.wf i (by rw [h1.len]; exact hi))

theorem sink_same {s : Qu} (h : s.WF) {i : Nat} (hi : i < s.it.length) : Same s (s.sink i) := by
  unfold sink
  split
  · exact Same.refl h
  · have h1 := swp_same h hi (show s.it.length - 1 < s.it.length by omega) (by omega)
    have h2 := h1.trans (down_same h1.wf i (s.it.length - 1) (by rw [swp_len]; omega))
    split
    · exact h2
    · exact h2.trans (up_same h2.wf i (by rw [h2.len]; exact hi))
end Qu
end Go.Proofs.Ybulkcmtm
