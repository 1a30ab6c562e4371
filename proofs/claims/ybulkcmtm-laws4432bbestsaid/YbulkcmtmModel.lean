/- THE MODEL OF THE LAW ON leave, AS PLAIN LEAN. No Go in sight. -/
import Derived.Test.YbulkcmtmOrder
import Derived.Test.YbulkcmtmLoop
namespace Go.Proofs.Ybulkcmtm
namespace Qu

theorem up_out (j : Nat) : ∀ (s : Qu) (c : Nat), j < c → j < s.it.length → (s.up j).g c = s.g c := by
  induction j using Nat.strongRecOn with
  | _ j ih =>
    intro s c hc hj
    rw [up]
    by_cases h0 : j = 0
    · rw [dif_pos h0]
    · rw [dif_neg h0]
      split
      · rw [ih ((j - 1) / 2) (by omega) _ c (by omega) (by rw [swp_len]; omega), swp_g s (by omega) hj, if_neg (by omega), if_neg (by omega)]
      · rfl

theorem down_out (m d : Nat) : ∀ (s : Qu) (i c : Nat), m - i = d → m ≤ c → m ≤ s.it.length → i < m → (s.down i m).1.g c = s.g c := by
  induction d using Nat.strongRecOn with
  | _ d ih =>
    intro s i c hd hc hm hi
    rw [down]
    by_cases h0 : 2 * i + 1 < m
    · rw [dif_pos h0]
      have hlt := child_lt s h0
      have hgt : i < s.child i m := by rcases child_or s i m with e | e <;> omega
      split
      · rw [ih (m - s.child i m) (by omega) _ _ c rfl hc (by rw [swp_len]; exact hm) hlt, swp_g s (by omega) (by omega), if_neg (by omega), if_neg (by omega)]
      · rfl
    · rw [dif_neg h0]

theorem down_len (m d : Nat) : ∀ (s : Qu) (i : Nat), m - i = d → (s.down i m).1.it.length = s.it.length := by
  induction d using Nat.strongRecOn with
  | _ d ih =>
    intro s i hd
    rw [down]
    by_cases h0 : 2 * i + 1 < m
    · rw [dif_pos h0]
      have hgt : i < s.child i m := by rcases child_or s i m with e | e <;> omega
      have hlt := child_lt s h0
      split
      · rw [ih (m - s.child i m) (by omega) _ _ rfl, swp_len]
      · rfl
    · rw [dif_neg h0]

theorem sink_last {s : Qu} {i : Nat} (hi : i < s.it.length) : (s.sink i).g (s.it.length - 1) = s.g i := by
  unfold sink
  by_cases e : s.it.length - 1 = i
  · rw [if_pos e, e]
  · rw [if_neg e]
    obtain ⟨m, hm⟩ : ∃ m, s.it.length - 1 = m := ⟨_, rfl⟩
    rw [hm] at e ⊢
    have h1 : (s.swp i m).g m = s.g i := by rw [swp_g s hi (by omega), if_pos rfl]
    have h2 : ((s.swp i m).down i m).1.g m = s.g i := by rw [down_out m _ _ i m rfl (Nat.le_refl _) (by rw [swp_len]; omega) (by omega), h1]
    split
    · exact h2
    · rw [up_out i _ m (by omega) (by rw [down_len m _ _ _ rfl, swp_len]; omega)]; exact h2

/-- What heap.Remove leaves. -/
theorem remove_spec {s : Qu} (h : s.WF) {i : Nat} (hi : i < s.it.length) :
    (s.remove i).WF ∧ (∀ y, y ∈ (s.remove i).it ↔ y ∈ s.it ∧ y.n ≠ (s.g i).n) ∧ (s.remove i).at_.length = s.at_.length ∧ (s.remove i).at_[(s.g i).n]? = some (-1) ∧
      ∀ n, (∀ y ∈ s.it, y.n ≠ n) → (s.remove i).at_[n]? = s.at_[n]? := by
  have hs := sink_same h hi
  have hl : (s.sink i).it.length = s.it.length := hs.len
  have hlast : (s.sink i).g ((s.sink i).it.length - 1) = s.g i := by rw [hl]; exact sink_last hi
  have hat : (s.remove i).at_ = (s.sink i).at_.set (s.g i).n (-1) := by simp only [remove, pop]; rw [hlast]
  have hlen : (s.remove i).it.length = s.it.length - 1 := by simp [remove, pop, hl]
  have gp : ∀ j, j < s.it.length - 1 → (s.remove i).g j = (s.sink i).g j := fun j hj => by
    simp only [remove, pop, g, List.getD]
    rw [List.getElem?_dropLast, if_pos (by rw [hl]; exact hj)]
  have hni : (s.g i).n < (s.sink i).at_.length := by rw [hs.alen]; exact (h i hi).1
  have hne : ∀ j, j < s.it.length - 1 → ((s.sink i).g j).n ≠ (s.g i).n := fun j hj e => by
    have := hs.wf.inj (i := j) (j := (s.sink i).it.length - 1) (by rw [hl]; omega) (by rw [hl]; omega) (by rw [hlast]; exact e)
    rw [hl] at this
    omega
  refine ⟨?_, ?_, by rw [hat, List.length_set, hs.alen], by rw [hat]; simp [hni], ?_⟩
  · intro j hj
    rw [hlen] at hj
    rw [gp j hj, hat]
    have := hs.wf j (by rw [hl]; omega)
    refine ⟨by rw [List.length_set]; exact this.1, ?_⟩
    rw [List.getElem?_set_ne (Ne.symm (hne j hj))]
    exact this.2
  · intro y
    constructor
    · intro hy
      obtain ⟨j, hj, rfl⟩ := List.mem_iff_getElem.1 hy
      have e1 : (s.remove i).it[j] = (s.sink i).g j := by rw [← gp j (by rw [hlen] at hj; exact hj), g_lt _ hj]
      rw [e1]
      refine ⟨hs.perm.mem_iff.1 (g_mem _ (by rw [hl]; rw [hlen] at hj; omega)), hne j (by rw [hlen] at hj; exact hj)⟩
    · rintro ⟨hy, hyn⟩
      obtain ⟨j, hj, e1⟩ := List.mem_iff_getElem.1 (hs.perm.mem_iff.2 hy)
      have hjl : j ≠ s.it.length - 1 := by
        intro e
        apply hyn
        rw [← e1, ← hlast, hl, ← e, g_lt _ hj]
      have hj2 : j < s.it.length - 1 := by rw [hl] at hj; omega
      have : (s.remove i).g j = y := by rw [gp j hj2, g_lt _ hj, e1]
      rw [← this]
      exact g_mem _ (by rw [hlen]; exact hj2)
  · intro n hn
    rw [hat, List.getElem?_set_ne (fun e => hn _ (g_mem s hi) e)]
    exact hs.out n hn

/-- What heap.Push leaves. -/
theorem hpush_spec {s : Qu} (h : s.WF) {x : Held} (hx : x.n < s.at_.length) (hn : ∀ y ∈ s.it, y.n ≠ x.n) :
    (s.hpush x).WF ∧ (∀ y, y ∈ (s.hpush x).it ↔ y ∈ s.it ∨ y = x) ∧ (s.hpush x).at_.length = s.at_.length ∧ ∀ n, n ≠ x.n → (∀ y ∈ s.it, y.n ≠ n) → (s.hpush x).at_[n]? = s.at_[n]? := by
  have hs := hpush_same h hx hn
  refine ⟨hs.wf, fun y => by rw [hs.perm.mem_iff]; simp [push], by rw [hs.alen]; simp [push], fun n h1 h2 => ?_⟩
  rw [hs.out n (by
    intro y hy
    simp only [push, List.mem_append, List.mem_singleton] at hy
    rcases hy with hy | rfl
    · exact h2 y hy
    · exact Ne.symm h1)]
  simp [push, Ne.symm h1]
end Qu

theorem sub_len : ∀ (a b : List Nat), a.Nodup → (∀ x ∈ a, x ∈ b) → a.length ≤ b.length
  | [], _, _, _ => by simp
  | x :: xs, b, hn, hs => by
    have h1 : xs.length ≤ (b.erase x).length := sub_len xs (b.erase x) (List.nodup_cons.1 hn).2 (fun y hy => by
      have hne : y ≠ x := fun e => (List.nodup_cons.1 hn).1 (e ▸ hy)
      exact (List.mem_erase_of_ne hne).2 (hs y (by simp [hy])))
    have h2 := hs x (by simp)
    have h3 := List.length_erase_of_mem h2
    have h4 : 0 < b.length := List.length_pos_of_mem h2
    simp only [List.length_cons]
    omega

/-- THE MODEL's WORD. -/
structure CI (T : Tree) (inn : Nat → Bool) (rk : Nat → Int × Int) : Prop where
  ol : T.off.length = 3
  al : T.oAt.length = 8
  wf : ∀ k, k < 3 → (oq T k).WF
  ord : ∀ k, k < 3 → Qu.Ord (T.off.getD k []).length (oq T k)
  mem : ∀ k, k < 3 → ∀ y ∈ T.off.getD k [], y.n < 8 ∧ y.n % 3 = k ∧ inn y.n = true ∧ (y.p, y.q) = rk y.n
  has : ∀ n, n < 8 → inn n = true → ∃ y ∈ T.off.getD (n % 3) [], y.n = n
  out : ∀ n, n < 8 → inn n = false → T.oAt[n]? = some (-1)

def cnt (inn : Nat → Bool) (k j : Nat) : Nat := ((List.range j).filter fun n => inn n && n % 3 == k).length
theorem cnt_succ (inn : Nat → Bool) (k j : Nat) : cnt inn k (j + 1) = cnt inn k j + if (inn j && j % 3 == k) = true then 1 else 0 := by
  simp only [cnt, List.range_succ, List.filter_append, List.length_append]
  by_cases h : (inn j && j % 3 == k) = true
  · rw [if_pos h]; simp [h]
  · rw [if_neg h]; simp [h]

theorem CI.count {T : Tree} {inn : Nat → Bool} {rk : Nat → Int × Int} (h : CI T inn rk) {k : Nat} (hk : k < 3) : (T.off.getD k []).length = cnt inn k 8 := by
  have hnd : ((T.off.getD k []).map Held.n).Nodup := by
    refine List.pairwise_iff_getElem.2 ?_
    intro i j hi hj hij e
    simp only [List.length_map] at hi hj
    simp only [List.getElem_map] at e
    have := (h.wf k hk).inj (i := i) (j := j) hi hj (by rw [Qu.g_lt (oq T k) hi, Qu.g_lt (oq T k) hj]; exact e)
    omega
  have h1 := sub_len _ ((List.range 8).filter fun n => inn n && n % 3 == k) hnd (by
    intro x hx
    obtain ⟨y, hy, rfl⟩ := List.mem_map.1 hx
    obtain ⟨a, b, c, _⟩ := h.mem k hk y hy
    simp [List.mem_filter, a, b, c])
  have h2 := sub_len ((List.range 8).filter fun n => inn n && n % 3 == k) ((T.off.getD k []).map Held.n) (List.Pairwise.filter _ List.nodup_range) (by
    intro x hx
    simp only [List.mem_filter, List.mem_range, Bool.and_eq_true, beq_iff_eq] at hx
    obtain ⟨y, hy, e⟩ := h.has x hx.1 hx.2.1
    rw [hx.2.2] at hy
    exact List.mem_map.2 ⟨y, hy, e⟩)
  simp only [List.length_map] at h1 h2
  exact Nat.le_antisymm h1 h2

theorem CI.turn {T : Tree} {inn inn' : Nat → Bool} {rk rk' : Nat → Int × Int} (h : CI T inn rk) {k : Nat} (hk : k < 3) {s1 : Qu} (hw : s1.WF) (ho : Qu.Ord s1.it.length s1) (hl : s1.at_.length = 8)
    (hm : ∀ y ∈ s1.it, y.n < 8 ∧ y.n % 3 = k ∧ inn' y.n = true ∧ (y.p, y.q) = rk' y.n) (hh : ∀ n, n < 8 → n % 3 = k → inn' n = true → ∃ y ∈ s1.it, y.n = n)
    (hx : ∀ n, n < 8 → n % 3 = k → inn' n = false → s1.at_[n]? = some (-1)) (he : ∀ n, n % 3 ≠ k → inn' n = inn n ∧ rk' n = rk n ∧ s1.at_[n]? = T.oAt[n]?) :
    CI { T with off := T.off.set k s1.it, oAt := s1.at_ } inn' rk' := by
  have hkl : k < T.off.length := by rw [h.ol]; exact hk
  have gk : ∀ j, (T.off.set k s1.it).getD j [] = if j = k then s1.it else T.off.getD j [] := fun j => getD_set' hkl j
  have eq1 : oq { T with off := T.off.set k s1.it, oAt := s1.at_ } k = s1 := by simp only [oq, gk]; simp
  have eq2 : ∀ j, j ≠ k → oq { T with off := T.off.set k s1.it, oAt := s1.at_ } j = ⟨T.off.getD j [], s1.at_⟩ := fun j hj => by simp only [oq, gk, if_neg hj]
  refine ⟨by simp [h.ol], hl, ?_, ?_, ?_, ?_, ?_⟩
  · intro j hj
    by_cases e : j = k
    · rw [e, eq1]; exact hw
    · rw [eq2 j e]
      intro i hi
      have h0 := h.wf j hj i hi
      have hmm := h.mem j hj _ (Qu.g_mem (oq T j) hi)
      have hat := (he ((oq T j).g i).n (by rw [hmm.2.1]; exact e)).2.2
      exact ⟨by rw [hl]; exact hmm.1, by show s1.at_[((oq T j).g i).n]? = _; rw [hat]; exact h0.2⟩
  · intro j hj
    by_cases e : j = k
    · rw [e, eq1]; simp only [gk, if_pos]; exact ho
    · rw [eq2 j e]; simp only [gk, if_neg e]; exact h.ord j hj
  · intro j hj y hy
    simp only [gk] at hy
    by_cases e : j = k
    · rw [if_pos e] at hy; rw [e]; exact hm y hy
    · rw [if_neg e] at hy
      obtain ⟨a, b, c, d⟩ := h.mem j hj y hy
      obtain ⟨x1, x2, _⟩ := he y.n (by rw [b]; exact e)
      exact ⟨a, b, by rw [x1]; exact c, by rw [x2]; exact d⟩
  · intro n hn hi
    simp only [gk]
    by_cases e : n % 3 = k
    · rw [if_pos e]; exact hh n hn e hi
    · rw [if_neg e]
      obtain ⟨x1, _, _⟩ := he n e
      exact h.has n hn (by rw [← x1]; exact hi)
  · intro n hn hi
    by_cases e : n % 3 = k
    · exact hx n hn e hi
    · obtain ⟨x1, _, x3⟩ := he n e
      show s1.at_[n]? = _
      rw [x3]
      exact h.out n hn (by rw [← x1]; exact hi)

def upd {α : Type} (f : Nat → α) (n : Nat) (v : α) : Nat → α := fun m => if m = n then v else f m

theorem CI.absent {T : Tree} {inn : Nat → Bool} {rk : Nat → Int × Int} (h : CI T inn rk) {n : Nat} (hi : inn n = false) : ∀ y ∈ T.off.getD (n % 3) [], y.n ≠ n := by
  intro y hy e
  obtain ⟨_, _, c, _⟩ := h.mem (n % 3) (Nat.mod_lt _ (by omega)) y hy
  rw [e, hi] at c
  cases c

theorem CI.join {T T' : Tree} {inn : Nat → Bool} {rk : Nat → Int × Int} (h : CI T inn rk) {n : Nat} (hn : n < 8) (hi : inn n = false) (p q : Int)
    (e1 : T'.off = T.off.set (n % 3) ((oq T (n % 3)).hpush ⟨n, p, q⟩).it) (e2 : T'.oAt = ((oq T (n % 3)).hpush ⟨n, p, q⟩).at_) : CI T' (upd inn n true) (upd rk n (p, q)) := by
  have hk : n % 3 < 3 := Nat.mod_lt _ (by omega)
  obtain ⟨hw, hm, hl, ho⟩ := Qu.hpush_spec (h.wf _ hk) (x := ⟨n, p, q⟩) (show n < T.oAt.length by rw [h.al]; exact hn) (h.absent hi)
  have hord := Qu.hpush_ord (s := oq T (n % 3)) (h.ord _ hk) ⟨n, p, q⟩
  have key := h.turn (inn' := upd inn n true) (rk' := upd rk n (p, q)) hk hw (by rw [hord.2]; exact hord.1) (by rw [hl]; exact h.al) (by
      intro y hy
      rcases (hm y).1 hy with hy | rfl
      · obtain ⟨a, b, c, d⟩ := h.mem _ hk y hy
        have hne := h.absent hi y hy
        exact ⟨a, b, by simp [upd, hne, c], by simp [upd, hne, d]⟩
      · exact ⟨hn, rfl, by simp [upd], by simp [upd]⟩) (by
      intro m hm8 hm3 hmi
      by_cases e : m = n
      · exact ⟨⟨n, p, q⟩, (hm _).2 (.inr rfl), e.symm⟩
      · simp only [upd, if_neg e] at hmi
        obtain ⟨y, hy, hyn⟩ := h.has m hm8 hmi
        rw [hm3] at hy
        exact ⟨y, (hm _).2 (.inl hy), hyn⟩) (by
      intro m hm8 hm3 hmi
      have e : m ≠ n := by rintro rfl; simp [upd] at hmi
      simp only [upd, if_neg e] at hmi
      rw [ho m e (by
        intro y hy e'
        obtain ⟨_, _, c, _⟩ := h.mem _ hk y hy
        rw [e', hmi] at c; cases c)]
      exact h.out m hm8 hmi) (by
      intro m hm3
      have e : m ≠ n := by rintro rfl; exact hm3 rfl
      refine ⟨by simp [upd, e], by simp [upd, e], ho m e ?_⟩
      intro y hy e'
      obtain ⟨_, b, _, _⟩ := h.mem _ hk y hy
      rw [e'] at b
      exact hm3 b)
  exact ⟨by rw [e1]; exact key.ol, by rw [e2]; exact key.al, fun k hk => by have := key.wf k hk; simp only [oq] at this ⊢; rw [e1, e2]; exact this, fun k hk => by have := key.ord k hk; simp only [oq] at this ⊢; rw [e1, e2]; exact this,
    fun k hk => by rw [e1]; exact key.mem k hk, fun m hm => by rw [e1]; exact key.has m hm, fun m hm => by rw [e2]; exact key.out m hm⟩

theorem CI.place {T : Tree} {inn : Nat → Bool} {rk : Nat → Int × Int} (h : CI T inn rk) {n : Nat} (hn : n < 8) (hi : inn n = true) :
    ∃ i : Nat, T.oAt[n]? = some (i : Int) ∧ i < (T.off.getD (n % 3) []).length ∧ ((oq T (n % 3)).g i).n = n := by
  obtain ⟨y, hy, e⟩ := h.has n hn hi
  obtain ⟨i, hil, rfl⟩ := List.mem_iff_getElem.1 hy
  have hg : ((oq T (n % 3)).g i).n = n := by rw [Qu.g_lt (oq T (n % 3)) (i := i) hil]; exact e
  have := (h.wf _ (Nat.mod_lt _ (by omega)) i hil).2
  rw [hg] at this
  exact ⟨i, this, hil, hg⟩

theorem CI.leave {T : Tree} {inn : Nat → Bool} {rk : Nat → Int × Int} (h : CI T inn rk) {n i : Nat} (hn : n < 8) (hi : i < (T.off.getD (n % 3) []).length) (hg : ((oq T (n % 3)).g i).n = n) :
    CI { T with off := T.off.set (n % 3) ((oq T (n % 3)).remove i).it, oAt := ((oq T (n % 3)).remove i).at_ } (upd inn n false) rk := by
  have hk : n % 3 < 3 := Nat.mod_lt _ (by omega)
  obtain ⟨hw, hm, hl, hx, ho⟩ := Qu.remove_spec (h.wf _ hk) (i := i) hi
  rw [hg] at hm hx
  have hord := Qu.remove_ord (s := oq T (n % 3)) (h.ord _ hk) hi
  refine h.turn hk hw (by rw [hord.2]; exact hord.1) (by rw [hl]; exact h.al) ?_ ?_ ?_ ?_
  · intro y hy
    obtain ⟨hy, hne⟩ := (hm y).1 hy
    obtain ⟨a, b, c, d⟩ := h.mem _ hk y hy
    exact ⟨a, b, by simp [upd, hne, c], d⟩
  · intro m hm8 hm3 hmi
    have e : m ≠ n := by rintro rfl; simp [upd] at hmi
    simp only [upd, if_neg e] at hmi
    obtain ⟨y, hy, hyn⟩ := h.has m hm8 hmi
    rw [hm3] at hy
    exact ⟨y, (hm _).2 ⟨hy, by rw [hyn]; exact e⟩, hyn⟩
  · intro m hm8 hm3 hmi
    by_cases e : m = n
    · rw [e]; exact hx
    · simp only [upd, if_neg e] at hmi
      rw [ho m (by
        intro y hy e'
        obtain ⟨_, _, c, _⟩ := h.mem _ hk y hy
        rw [e', hmi] at c; cases c)]
      exact h.out m hm8 hmi
  · intro m hm3
    have e : m ≠ n := by rintro rfl; exact hm3 rfl
    refine ⟨by simp [upd, e], rfl, ho m ?_⟩
    intro y hy e'
    obtain ⟨_, b, _, _⟩ := h.mem _ hk y hy
    rw [e'] at b
    exact hm3 b
end Go.Proofs.Ybulkcmtm
