/- THE HEADS' QUEUES, AS PLAIN LEAN. No Go in sight. -/
import Derived.Test.YbulkcmtmTree
namespace Go.Proofs.Ybulkcmtm

def hq (T : Tree) (k : Nat) : Qu := ⟨T.hd.getD k [], T.sAt⟩

/-- WHAT HOLDS OF THE STANDS. -/
structure HW (T : Tree) : Prop where
  len : T.st.length = T.sAt.length
  wf : ∀ k, k < T.hd.length → (hq T k).WF
  nodes : ∀ (s : Nat) (p : Int × Int), T.st[s]? = some p → (∃ nd : Nat, p.2 = nd ∧ nd < T.hd.length) ∧ ∃ o : Nat, p.1 = o ∧ o < T.off.length
  mem : ∀ k, k < T.hd.length → ∀ y ∈ T.hd.getD k [], ∃ p, T.st[y.n]? = some p ∧ p.2 = (k : Int)
  place : ∀ (s : Nat), s < T.sAt.length → T.sAt[s]? = some (-1) ∨ ∃ (i nd : Nat) (o : Int), T.sAt[s]? = some (i : Int) ∧ T.st[s]? = some (o, (nd : Int)) ∧ nd < T.hd.length ∧ i < (T.hd.getD nd []).length ∧ ((hq T nd).g i).n = s

/-- What joining does to the heads leaves the rest; no stand is lost. -/
structure After (T T' : Tree) : Prop where
  lv : T'.lv = T.lv
  off : T'.off = T.off
  oAt : T'.oAt = T.oAt
  st : T'.st = T.st
  so : T'.so = T.so
  hl : T'.hd.length = T.hd.length
  sl : T'.sAt.length = T.sAt.length
  keep : ∀ (s i : Nat), T.sAt[s]? = some (i : Int) → ∃ j : Nat, T'.sAt[s]? = some (j : Int)

theorem After.refl (T : Tree) : After T T := ⟨rfl, rfl, rfl, rfl, rfl, rfl, rfl, fun _ i h => ⟨i, h⟩⟩
theorem After.trans {A B C : Tree} (h : After A B) (k : After B C) : After A C :=
  ⟨k.lv.trans h.lv, k.off.trans h.off, k.oAt.trans h.oAt, k.st.trans h.st, k.so.trans h.so, k.hl.trans h.hl, k.sl.trans h.sl, fun s i hi => by obtain ⟨j, hj⟩ := h.keep s i hi; exact k.keep s j hj⟩

theorem getD_set' {l : List (List Held)} {k : Nat} {v : List Held} (hk : k < l.length) (i : Nat) : (l.set k v).getD i [] = if i = k then v else l.getD i [] := by
  simp only [List.getD, List.getElem?_set]
  by_cases e : k = i
  · subst e; simp [hk]
  · rw [if_neg e, if_neg (Ne.symm e)]

/-- A head's queue turned. -/
theorem HW.turn {T : Tree} (h : HW T) {nd : Nat} (hn : nd < T.hd.length) {s1 : Qu} (hw : s1.WF) (hl : s1.at_.length = T.sAt.length)
    (hm : ∀ y ∈ s1.it, ∃ p, T.st[y.n]? = some p ∧ p.2 = (nd : Int)) (ho : ∀ n, (∀ y ∈ s1.it, y.n ≠ n) → s1.at_[n]? = T.sAt[n]?) (hin : ∀ y ∈ T.hd.getD nd [], ∃ y' ∈ s1.it, y'.n = y.n) :
    HW { T with hd := T.hd.set nd s1.it, sAt := s1.at_ } ∧ After T { T with hd := T.hd.set nd s1.it, sAt := s1.at_ } ∧ ∀ y ∈ s1.it, ∃ j : Nat, s1.at_[y.n]? = some (j : Int) := by
  have hat : ∀ y ∈ s1.it, ∃ j : Nat, j < s1.it.length ∧ s1.at_[y.n]? = some (j : Int) ∧ (s1.g j).n = y.n := by
    intro y hy
    obtain ⟨j, hj, rfl⟩ := List.mem_iff_getElem.1 hy
    have := hw j hj
    rw [Qu.g_lt _ hj] at this
    exact ⟨j, hj, this.2, by rw [Qu.g_lt _ hj]⟩
  refine ⟨⟨by simp [h.len, hl], ?_, ?_, ?_, ?_⟩, ⟨rfl, rfl, rfl, rfl, rfl, by simp, hl, ?_⟩, fun y hy => by obtain ⟨j, _, e, _⟩ := hat y hy; exact ⟨j, e⟩⟩
  · intro k hk
    simp only [List.length_set] at hk
    by_cases e : k = nd
    · subst e
      have : hq { T with hd := T.hd.set k s1.it, sAt := s1.at_ } k = s1 := by simp only [hq, getD_set' hn]; simp
      rw [this]; exact hw
    · have e1 : hq { T with hd := T.hd.set nd s1.it, sAt := s1.at_ } k = ⟨T.hd.getD k [], s1.at_⟩ := by simp only [hq, getD_set' hn, if_neg e]
      rw [e1]
      intro i hi
      have h0 := h.wf k hk i hi
      refine ⟨by rw [hl]; exact h0.1, ?_⟩
      refine (ho _ ?_).trans h0.2
      intro y hy ey
      obtain ⟨p, hp, hp2⟩ := hm y hy
      obtain ⟨p', hp', hp2'⟩ := h.mem k hk _ (Qu.g_mem (hq T k) hi)
      have ey' : y.n = ((hq T k).g i).n := ey
      rw [ey'] at hp
      rw [hp] at hp'
      cases hp'
      rw [hp2] at hp2'
      exact e (by omega)
  · intro s p hp
    obtain ⟨a, b⟩ := h.nodes s p hp
    exact ⟨by simpa using a, b⟩
  · intro k hk y hy
    simp only [List.length_set] at hk
    simp only [getD_set' hn] at hy
    by_cases e : k = nd
    · subst e; rw [if_pos rfl] at hy; exact hm y hy
    · rw [if_neg e] at hy; exact h.mem k hk y hy
  · intro s hs
    simp only [hl] at hs
    by_cases hx : ∃ y ∈ s1.it, y.n = s
    · obtain ⟨y, hy, rfl⟩ := hx
      obtain ⟨j, hj, e, e2⟩ := hat y hy
      obtain ⟨⟨o, p2⟩, hp, hp2⟩ := hm y hy
      refine .inr ⟨j, nd, o, e, by rw [← hp2]; exact hp, by simpa using hn, ?_, ?_⟩
      · simp only [getD_set' hn]; simpa using hj
      · have : hq { T with hd := T.hd.set nd s1.it, sAt := s1.at_ } nd = s1 := by simp only [hq, getD_set' hn]; simp
        rw [this]; exact e2
    · have hs1 : s1.at_[s]? = T.sAt[s]? := ho s fun y hy e => hx ⟨y, hy, e⟩
      rcases h.place s hs with e | ⟨i, nd', o, e, hst, hnd, hi, hg⟩
      · exact .inl (hs1.trans e)
      · have hne : nd' ≠ nd := by
          rintro rfl
          obtain ⟨y', hy', e'⟩ := hin _ (Qu.g_mem (hq T nd') hi)
          exact hx ⟨y', hy', e'.trans hg⟩
        refine .inr ⟨i, nd', o, hs1.trans e, hst, by simpa using hnd, ?_, ?_⟩
        · simp only [getD_set' hn, if_neg hne]; exact hi
        · have : hq { T with hd := T.hd.set nd s1.it, sAt := s1.at_ } nd' = ⟨T.hd.getD nd' [], s1.at_⟩ := by simp only [hq, getD_set' hn, if_neg hne]
          rw [this]; exact hg
  · intro s i hi
    by_cases hx : ∃ y ∈ s1.it, y.n = s
    · obtain ⟨y, hy, rfl⟩ := hx
      obtain ⟨j, _, e, _⟩ := hat y hy
      exact ⟨j, e⟩
    · exact ⟨i, (ho s fun y hy e => hx ⟨y, hy, e⟩).trans hi⟩

/-- heap.Push(node, held{s, r}), s standing nowhere. -/
theorem HW.pushed {T : Tree} (h : HW T) {s nd : Nat} {o : Int} (hs : T.sAt[s]? = some (-1)) (hst : T.st[s]? = some (o, (nd : Int))) (hn : nd < T.hd.length) (p q : Int) :
    (∀ y ∈ T.hd.getD nd [], y.n ≠ s) ∧ HW { T with hd := T.hd.set nd ((hq T nd).hpush ⟨s, p, q⟩).it, sAt := ((hq T nd).hpush ⟨s, p, q⟩).at_ } ∧
      After T { T with hd := T.hd.set nd ((hq T nd).hpush ⟨s, p, q⟩).it, sAt := ((hq T nd).hpush ⟨s, p, q⟩).at_ } ∧ ∃ j : Nat, ((hq T nd).hpush ⟨s, p, q⟩).at_[s]? = some (j : Int) := by
  have hno : ∀ y ∈ T.hd.getD nd [], y.n ≠ s := by
    intro y hy e
    obtain ⟨i, hi, rfl⟩ := List.mem_iff_getElem.1 hy
    have hw := (h.wf nd hn i hi).2
    have e2 : ((hq T nd).g i).n = s := by rw [Qu.g_lt (hq T nd) (i := i) hi]; exact e
    rw [e2] at hw
    have h2 : (hq T nd).at_[s]? = some (-1) := hs
    rw [h2] at hw
    have := Option.some.inj hw
    omega
  have hsl : s < T.sAt.length := (List.getElem?_eq_some_iff.1 hs).1
  have hsame := Qu.hpush_same (h.wf nd hn) (x := ⟨s, p, q⟩) hsl hno
  have hmem : ∀ y, y ∈ ((hq T nd).hpush ⟨s, p, q⟩).it ↔ y ∈ T.hd.getD nd [] ∨ y = ⟨s, p, q⟩ := by
    intro y
    rw [hsame.perm.mem_iff]
    simp [Qu.push, hq]
  obtain ⟨h1, h2, h3⟩ := h.turn hn hsame.wf (by rw [hsame.alen]; simp [Qu.push, hq]) (by
      intro y hy
      rcases (hmem y).1 hy with e | rfl
      · exact h.mem nd hn y e
      · exact ⟨_, hst, rfl⟩) (by
      intro n hn'
      have hns : s ≠ n := hn' ⟨s, p, q⟩ ((hmem _).2 (.inr rfl))
      refine (hsame.out n ?_).trans ?_
      · intro y hy
        simp only [Qu.push, List.mem_append, List.mem_singleton] at hy
        exact hn' y ((hmem y).2 hy)
      · simp [Qu.push, hq, hns]) (fun y hy => ⟨y, (hmem y).2 (.inl hy), rfl⟩)
  exact ⟨hno, h1, h2, h3 ⟨s, p, q⟩ ((hmem _).2 (.inr rfl))⟩

/-- node.items[at].rank = r; heap.Fix(node, at). -/
theorem HW.fixed {T : Tree} (h : HW T) {nd i : Nat} (hn : nd < T.hd.length) (hi : i < (T.hd.getD nd []).length) (p q : Int) :
    let T1 : Tree := { T with hd := T.hd.set nd ((T.hd.getD nd []).set i ⟨((T.hd.getD nd [])[i]).n, p, q⟩) }
    HW T1 ∧ After T T1 ∧ HW { T1 with hd := T1.hd.set nd ((hq T1 nd).fix i).it, sAt := ((hq T1 nd).fix i).at_ } ∧ After T1 { T1 with hd := T1.hd.set nd ((hq T1 nd).fix i).it, sAt := ((hq T1 nd).fix i).at_ } := by
  intro T1
  have hnum : ∀ y', y' ∈ (T.hd.getD nd []).set i ⟨((T.hd.getD nd [])[i]).n, p, q⟩ → ∃ y ∈ T.hd.getD nd [], y.n = y'.n := by
    intro y' hy'
    rcases List.mem_or_eq_of_mem_set hy' with e | rfl
    · exact ⟨y', e, rfl⟩
    · exact ⟨_, List.getElem_mem hi, rfl⟩
  have hnum2 : ∀ y, y ∈ T.hd.getD nd [] → ∃ y' ∈ (T.hd.getD nd []).set i ⟨((T.hd.getD nd [])[i]).n, p, q⟩, y'.n = y.n := by
    intro y hy
    obtain ⟨j, hj, rfl⟩ := List.mem_iff_getElem.1 hy
    by_cases e : i = j
    · subst e
      exact ⟨⟨((T.hd.getD nd [])[i]).n, p, q⟩, List.mem_of_getElem? (List.getElem?_set_self hi), rfl⟩
    · exact ⟨(T.hd.getD nd [])[j], List.mem_of_getElem? (by rw [List.getElem?_set_ne e, List.getElem?_eq_getElem hj]), rfl⟩
  have hw1 : (Qu.mk ((T.hd.getD nd []).set i ⟨((T.hd.getD nd [])[i]).n, p, q⟩) T.sAt).WF := by
    intro j hj
    simp only [List.length_set] at hj
    have := h.wf nd hn j hj
    have e : ((Qu.mk ((T.hd.getD nd []).set i ⟨((T.hd.getD nd [])[i]).n, p, q⟩) T.sAt).g j).n = ((hq T nd).g j).n := by
      rw [Qu.g_lt _ (by simpa using hj), Qu.g_lt _ hj]
      simp only [hq, List.getElem_set]
      split
      · rename_i e; subst e; rfl
      · rfl
    rw [e]
    exact this
  obtain ⟨h1, h2, _⟩ := h.turn hn hw1 rfl (fun y hy => by obtain ⟨y', hy', e⟩ := hnum y hy; rw [← e]; exact h.mem nd hn y' hy') (fun _ _ => rfl) hnum2
  have hT1 : HW T1 := h1
  have hn1 : nd < T1.hd.length := by simpa [T1] using hn
  have eq1 : hq T1 nd = Qu.mk ((T.hd.getD nd []).set i ⟨((T.hd.getD nd [])[i]).n, p, q⟩) T.sAt := by simp only [hq, T1, getD_set' hn]; simp
  have hfs := Qu.fix_same (h1.wf nd hn1) (i := i) (by rw [show hq T1 nd = _ from eq1]; simpa using hi)
  obtain ⟨h4, h5, _⟩ := hT1.turn hn1 hfs.wf hfs.alen (fun y hy => hT1.mem nd hn1 y (hfs.perm.mem_iff.1 hy)) (fun n hn' => hfs.out n fun y hy => hn' y (hfs.perm.mem_iff.2 hy)) (fun y hy => ⟨y, hfs.perm.mem_iff.2 hy, rfl⟩)
  exact ⟨hT1, h2, h4, h5⟩

theorem nodup_len (N : Nat) : ∀ l : List Nat, l.Nodup → (∀ x ∈ l, x < N) → l.length ≤ N := by
  induction N with
  | zero =>
    intro l _ h
    cases l with
    | nil => simp
    | cons x xs => exact absurd (h x (by simp)) (by omega)
  | succ N ih =>
    intro l hl h
    have h1 := ih (l.erase N) (hl.erase N) (fun x hx => by
      have := (hl.mem_erase_iff).1 hx
      have := h x this.2
      omega)
    have : l.length ≤ (l.erase N).length + 1 := by
      rw [List.length_erase]; split <;> omega
    omega

/-- No queue is longer than the row that tells its items' places. -/
theorem Qu.WF.len {s : Qu} (h : s.WF) : s.it.length ≤ s.at_.length := by
  have hnd : (s.it.map Held.n).Nodup := by
    refine List.pairwise_iff_getElem.2 ?_
    intro i j hi hj hij e
    simp only [List.length_map] at hi hj
    simp only [List.getElem_map] at e
    have := h.inj hi hj (by rw [Qu.g_lt _ hi, Qu.g_lt _ hj]; exact e)
    omega
  have := nodup_len s.at_.length _ hnd (by
    intro x hx
    obtain ⟨y, hy, rfl⟩ := List.mem_map.1 hx
    obtain ⟨i, hi, rfl⟩ := List.mem_iff_getElem.1 hy
    have := (h i hi).1
    rw [Qu.g_lt _ hi] at this
    exact this)
  simpa using this
end Go.Proofs.Ybulkcmtm
