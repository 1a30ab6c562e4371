/- HEAP ORDER, AS PLAIN LEAN: Push and Remove keep it. No Go in sight. -/
import Derived.Test.YbulkcmtmPure
namespace Go.Proofs.Ybulkcmtm
namespace Qu

/-- x is better than y. -/
def bt (x y : Held) : Bool := lower y.p y.q x.p x.q

theorem less_bt (s : Qu) (a b : Nat) : s.less a b = bt (s.g a) (s.g b) := rfl
theorem bt_asymm {x y : Held} (h : bt x y = true) : bt y x = false := by
  simp only [bt, lower] at *; simp at *; omega
theorem bt_trans {x y z : Held} (h : bt x y = true) (k : bt y z = true) : bt x z = true := by
  simp only [bt, lower] at *; simp at *; omega
theorem bt_ntrans {x y z : Held} (h : bt x y = false) (k : bt y z = false) : bt x z = false := by
  simp only [bt, lower] at *; simp at *; omega
theorem bt_up {x y z : Held} (h : bt x z = false) (k : bt y z = true) : bt x y = false := by
  simp only [bt, lower] at *; simp at *; omega

/-- In order among the first m. -/
def Ord (m : Nat) (s : Qu) : Prop := ∀ i, 0 < i → i < m → bt (s.g i) (s.g ((i - 1) / 2)) = false

theorem up_ord (m : Nat) (j : Nat) : ∀ (s : Qu), m ≤ s.it.length → j < m → (∀ i, 0 < i → i < m → i ≠ j → bt (s.g i) (s.g ((i - 1) / 2)) = false) →
    (0 < j → ∀ c, 0 < c → c < m → (c - 1) / 2 = j → bt (s.g c) (s.g ((j - 1) / 2)) = false) → Ord m (s.up j) ∧ (s.up j).it.length = s.it.length := by
  induction j using Nat.strongRecOn with
  | _ j ih =>
    intro s hm hj ha hb
    rw [up]
    by_cases h0 : j = 0
    · rw [dif_pos h0]
      exact ⟨fun i h1 h2 => ha i h1 h2 (by omega), rfl⟩
    · rw [dif_neg h0]
      cases hl : s.less j ((j - 1) / 2) with
      | false =>
        rw [if_neg (by simp)]
        refine ⟨fun i h1 h2 => ?_, rfl⟩
        by_cases e : i = j
        · subst e; exact hl
        · exact ha i h1 h2 e
      | true =>
        rw [if_pos rfl]
        rw [less_bt] at hl
        obtain ⟨p, hp⟩ : ∃ p, (j - 1) / 2 = p := ⟨_, rfl⟩
        rw [hp] at hl ⊢
        have hpj : p < j := by omega
        have hpl : p < s.it.length := by omega
        have hjl : j < s.it.length := by omega
        have gg : ∀ i, (s.swp p j).g i = if i = j then s.g p else if i = p then s.g j else s.g i := fun i => swp_g s hpl hjl
        have hpp : 0 < p → bt (s.g p) (s.g ((p - 1) / 2)) = false := fun h => ha p h (by omega) (by omega)
        have hr := ih p hpj (s.swp p j) (by rw [swp_len]; exact hm) (by omega) ?_ ?_
        · exact ⟨hr.1, by rw [hr.2, swp_len]⟩
        · intro i h1 h2 h3
          rw [gg, gg]
          by_cases ei : i = j
          · subst ei
            rw [if_pos rfl, hp, if_neg (by omega), if_pos rfl]
            exact bt_asymm hl
          · rw [if_neg ei, if_neg h3]
            by_cases e1 : (i - 1) / 2 = j
            · rw [if_pos e1, ← hp]
              exact hb (by omega) i h1 h2 e1
            · rw [if_neg e1]
              by_cases e2 : (i - 1) / 2 = p
              · rw [if_pos e2]
                have := ha i h1 h2 ei
                rw [e2] at this
                exact bt_up this hl
              · rw [if_neg e2]
                exact ha i h1 h2 ei
        · intro hp0 c h1 h2 h3
          rw [gg, gg]
          rw [if_neg (show (p - 1) / 2 ≠ j by omega), if_neg (show (p - 1) / 2 ≠ p by omega)]
          by_cases ec : c = j
          · rw [if_pos ec]; exact hpp hp0
          · rw [if_neg ec, if_neg (by omega)]
            have := ha c h1 h2 ec
            rw [h3] at this
            exact bt_ntrans this (hpp hp0)

/-- One step down: the better child goes up. -/
theorem child_best (s : Qu) {i m c : Nat} (hc : c < m) (hc0 : 0 < c) (hp : (c - 1) / 2 = i) : bt (s.g c) (s.g (s.child i m)) = false := by
  have irr : ∀ x : Held, bt x x = false := fun x => by simp [bt, lower]
  unfold child
  split
  · rename_i h
    rcases (show c = 2 * i + 1 ∨ c = 2 * i + 2 by omega) with e | e
    · rw [e]; exact bt_asymm h.2
    · rw [e]; exact irr _
  · rename_i h
    rcases (show c = 2 * i + 1 ∨ c = 2 * i + 2 by omega) with e | e
    · rw [e]; exact irr _
    · rw [e]
      cases hb : bt (s.g (2 * i + 2)) (s.g (2 * i + 1)) with
      | false => rfl
      | true => exact absurd ⟨by omega, hb⟩ h

theorem down_step (m : Nat) (s : Qu) (i : Nat) (hm : m ≤ s.it.length) (h1 : 2 * i + 1 < m) (hl : bt (s.g (s.child i m)) (s.g i) = true)
    (ha : ∀ c, 0 < c → c < m → (c - 1) / 2 ≠ i → c ≠ i → bt (s.g c) (s.g ((c - 1) / 2)) = false) (hb : 0 < i → ∀ c, 0 < c → c < m → (c - 1) / 2 = i → bt (s.g c) (s.g ((i - 1) / 2)) = false) :
    (∀ c, 0 < c → c < m → (c - 1) / 2 ≠ s.child i m → bt ((s.swp i (s.child i m)).g c) ((s.swp i (s.child i m)).g ((c - 1) / 2)) = false) ∧
      (0 < s.child i m → ∀ c, 0 < c → c < m → (c - 1) / 2 = s.child i m → bt ((s.swp i (s.child i m)).g c) ((s.swp i (s.child i m)).g ((s.child i m - 1) / 2)) = false) := by
  have hbest : ∀ c, c < m → 0 < c → (c - 1) / 2 = i → bt (s.g c) (s.g (s.child i m)) = false := fun c a b e => child_best s a b e
  have hlt := child_lt s h1
  obtain ⟨k, hk⟩ : ∃ k, s.child i m = k := ⟨_, rfl⟩
  have hor := child_or s i m
  rw [hk] at hl hbest hlt hor ⊢
  have hpk : (k - 1) / 2 = i := by omega
  have gg : ∀ c, (s.swp i k).g c = if c = k then s.g i else if c = i then s.g k else s.g c := fun c => swp_g s (by omega) (by omega)
  refine ⟨fun c h2 h3 h4 => ?_, fun h5 c h2 h3 h4 => ?_⟩
  · rw [gg, gg]
    rw [if_neg h4]
    by_cases ec : c = k
    · rw [if_pos ec, ec, hpk, if_pos rfl]
      exact bt_asymm hl
    · rw [if_neg ec]
      by_cases ei : c = i
      · rw [if_pos ei, if_neg (by omega), ei]
        exact hb (by omega) k (by omega) hlt hpk
      · rw [if_neg ei]
        by_cases ep : (c - 1) / 2 = i
        · rw [if_pos ep]; exact hbest c h3 h2 ep
        · rw [if_neg ep]; exact ha c h2 h3 ep ei
  · rw [gg, gg, hpk, if_neg (show i ≠ k by omega), if_pos rfl, if_neg (show c ≠ k by omega), if_neg (show c ≠ i by omega)]
    have := ha c h2 h3 (by omega) (by omega)
    rw [h4] at this
    exact this

theorem down_ord (m : Nat) (d : Nat) : ∀ (s : Qu) (i : Nat), m - i = d → m ≤ s.it.length → (∀ c, 0 < c → c < m → (c - 1) / 2 ≠ i → bt (s.g c) (s.g ((c - 1) / 2)) = false) →
    (0 < i → ∀ c, 0 < c → c < m → (c - 1) / 2 = i → bt (s.g c) (s.g ((i - 1) / 2)) = false) → Ord m (s.down i m).1 ∧ (s.down i m).1.it.length = s.it.length := by
  induction d using Nat.strongRecOn with
  | _ d ih =>
    intro s i hd hm ha hb
    rw [down]
    by_cases h0 : 2 * i + 1 < m
    · rw [dif_pos h0]
      cases hl : s.less (s.child i m) i with
      | true =>
        rw [if_pos rfl]
        rw [less_bt] at hl
        obtain ⟨a1, a2⟩ := down_step m s i hm h0 hl (fun c x y z _ => ha c x y z) hb
        have hlt := child_lt s h0
        have hgt : i < s.child i m := by rcases child_or s i m with e | e <;> omega
        have hr := ih (m - s.child i m) (by omega) (s.swp i (s.child i m)) (s.child i m) rfl (by rw [swp_len]; exact hm) a1 a2
        exact ⟨hr.1, by rw [hr.2, swp_len]⟩
      | false =>
        rw [if_neg (by simp)]
        refine ⟨fun c h1 h2 => ?_, rfl⟩
        by_cases e : (c - 1) / 2 = i
        · rw [e]
          exact bt_ntrans (child_best s h2 h1 e) hl
        · exact ha c h1 h2 e
    · rw [dif_neg h0]
      exact ⟨fun c h1 h2 => ha c h1 h2 (by omega), rfl⟩

/-- What a down from a place whose item may be too good does. -/
theorem down_or (m : Nat) (s : Qu) (i : Nat) (hm : m ≤ s.it.length) (hi : i < m) (ha : ∀ c, 0 < c → c < m → (c - 1) / 2 ≠ i → c ≠ i → bt (s.g c) (s.g ((c - 1) / 2)) = false)
    (hb : 0 < i → ∀ c, 0 < c → c < m → (c - 1) / 2 = i → bt (s.g c) (s.g ((i - 1) / 2)) = false) :
    Ord m (if (s.down i m).2 > i then (s.down i m).1 else (s.down i m).1.up i) ∧ (if (s.down i m).2 > i then (s.down i m).1 else (s.down i m).1.up i).it.length = s.it.length := by
  by_cases hmv : 2 * i + 1 < m ∧ s.less (s.child i m) i = true
  · have e : s.down i m = (s.swp i (s.child i m)).down (s.child i m) m := by rw [down, dif_pos hmv.1, if_pos hmv.2]
    have hgt : i < s.child i m := by rcases child_or s i m with e | e <;> omega
    have h2 : (s.down i m).2 > i := by
      rw [e]
      exact Nat.lt_of_lt_of_le hgt (down_ge _ _ _)
    rw [if_pos h2, e]
    obtain ⟨a1, a2⟩ := down_step m s i hm hmv.1 hmv.2 ha hb
    have hr := down_ord m _ (s.swp i (s.child i m)) (s.child i m) rfl (by rw [swp_len]; exact hm) a1 a2
    exact ⟨hr.1, by rw [hr.2, swp_len]⟩
  · have e : s.down i m = (s, i) := by
      rw [down]
      by_cases h0 : 2 * i + 1 < m
      · rw [dif_pos h0, if_neg (fun x => hmv ⟨h0, x⟩)]
      · rw [dif_neg h0]
    rw [e, if_neg (by omega)]
    refine up_ord m i s hm hi ?_ hb
    intro c h1 h2 h3
    by_cases ep : (c - 1) / 2 = i
    · rw [ep]
      have hl : bt (s.g (s.child i m)) (s.g i) = false := by
        have := fun x => hmv ⟨by omega, x⟩
        rw [less_bt] at this
        exact Bool.eq_false_iff.2 this
      exact bt_ntrans (child_best s h2 h1 ep) hl
    · exact ha c h1 h2 ep h3

/-- heap.Push keeps the order. -/
theorem hpush_ord {s : Qu} (h : Ord s.it.length s) (x : Held) : Ord (s.it.length + 1) (s.hpush x) ∧ (s.hpush x).it.length = s.it.length + 1 := by
  have hl : (s.push x).it.length = s.it.length + 1 := by simp [push]
  have gp : ∀ i, i < s.it.length → (s.push x).g i = s.g i := fun i hi => by simp [push, g, List.getD, List.getElem?_append_left hi]
  have hr := up_ord (s.it.length + 1) s.it.length (s.push x) (by omega) (by omega) (fun i h1 h2 h3 => by
    rw [gp i (by omega), gp _ (by omega)]; exact h i h1 (by omega)) (fun h0 c h1 h2 h3 => absurd h3 (by omega))
  exact ⟨hr.1, by rw [show s.hpush x = (s.push x).up s.it.length from rfl, hr.2, hl]⟩

/-- heap.Remove keeps the order. -/
theorem remove_ord {s : Qu} (h : Ord s.it.length s) {i : Nat} (hi : i < s.it.length) : Ord (s.it.length - 1) (s.remove i) ∧ (s.remove i).it.length = s.it.length - 1 := by
  have key : Ord (s.it.length - 1) (s.sink i) ∧ (s.sink i).it.length = s.it.length := by
    unfold sink
    by_cases e : s.it.length - 1 = i
    · rw [if_pos e]
      exact ⟨fun j h1 h2 => h j h1 (by omega), rfl⟩
    · rw [if_neg e]
      obtain ⟨m, hm⟩ : ∃ m, s.it.length - 1 = m := ⟨_, rfl⟩
      rw [hm] at e ⊢
      have him : i < m := by omega
      have gg : ∀ c, c < m → (s.swp i m).g c = if c = i then s.g m else s.g c := fun c hc => by
        rw [swp_g s hi (by omega), if_neg (by omega)]
      have hr := down_or m (s.swp i m) i (by rw [swp_len]; omega) him ?_ ?_
      · exact ⟨hr.1, by rw [hr.2, swp_len]⟩
      · intro c h1 h2 h3 h4
        rw [gg c h2, gg _ (by omega), if_neg h4, if_neg h3]
        exact h c h1 (by omega)
      · intro h0 c h1 h2 h3
        rw [gg c h2, gg _ (by omega), if_neg (by omega), if_neg (by omega)]
        have a1 := h c h1 (by omega)
        rw [h3] at a1
        exact bt_ntrans a1 (h i h0 hi)
  have hl : (s.remove i).it.length = s.it.length - 1 := by simp [remove, pop, key.2]
  refine ⟨fun j h1 h2 => ?_, hl⟩
  have gp : ∀ j, j < s.it.length - 1 → (s.remove i).g j = (s.sink i).g j := fun j hj => by
    simp only [remove, pop, g, List.getD]
    rw [List.getElem?_dropLast, if_pos (by rw [key.2]; exact hj)]
  rw [gp j h2, gp _ (by omega)]
  exact key.1 j h1 h2
end Qu
end Go.Proofs.Ybulkcmtm
