/- THE BEST OF A FEW NUMBERS, AS PLAIN LEAN; the stretches of an offer hold a leaf. No Go in sight. -/
import Derived.Test.YbulkcmtmBJ
import Derived.Test.YbulkcmtmSeq
namespace Go.Proofs.Ybulkcmtm

def better (gp : Nat → Int) (y x : Nat) : Prop := gp x < gp y ∨ (gp y = gp x ∧ y < x)

def IsBest (m : Nat) (P : Nat → Bool) (gp : Nat → Int) : Option Nat → Prop
  | none => ∀ x, x < m → P x = false
  | some x => x < m ∧ P x = true ∧ ∀ y, y < m → P y = true → ¬ better gp y x

theorem IsBest.uniq {m : Nat} {P : Nat → Bool} {gp : Nat → Int} {a b : Option Nat} (ha : IsBest m P gp a) (hb : IsBest m P gp b) : a = b := by
  cases a with
  | none =>
    cases b with
    | none => rfl
    | some y => have := ha y hb.1; rw [hb.2.1] at this; cases this
  | some x =>
    cases b with
    | none => have := hb x ha.1; rw [ha.2.1] at this; cases this
    | some y =>
      have h1 := ha.2.2 y hb.1 hb.2.1
      have h2 := hb.2.2 x ha.1 ha.2.1
      simp only [better] at h1 h2
      congr 1
      omega

theorem IsBest.skip {n : Nat} {P : Nat → Bool} {gp : Nat → Int} {b : Option Nat} (h : IsBest n P gp b) (hn : P n = false) : IsBest (n + 1) P gp b := by
  have key : ∀ y, y < n + 1 → P y = true → y < n := fun y hy hp => by
    rcases Nat.lt_or_ge y n with e | e
    · exact e
    · have : y = n := by omega
      rw [this, hn] at hp; cases hp
  cases b with
  | none =>
    intro x hx
    rcases Nat.lt_or_ge x n with e | e
    · exact h x e
    · have : x = n := by omega
      rw [this]; exact hn
  | some x => exact ⟨by have := h.1; omega, h.2.1, fun y hy hp => h.2.2 y (key y hy hp) hp⟩

theorem IsBest.first {n : Nat} {P : Nat → Bool} {gp : Nat → Int} (h : IsBest n P gp none) (hn : P n = true) : IsBest (n + 1) P gp (some n) := by
  refine ⟨by omega, hn, fun y hy hp hb => ?_⟩
  rcases Nat.lt_or_ge y n with e | e
  · have := h y e; rw [hp] at this; cases this
  · have : y = n := by omega
    subst this
    simp only [better] at hb
    omega

theorem IsBest.next {n x : Nat} {P : Nat → Bool} {gp : Nat → Int} (h : IsBest n P gp (some x)) (hn : P n = true) : IsBest (n + 1) P gp (if gp x < gp n then some n else some x) := by
  by_cases hg : gp x < gp n
  · rw [if_pos hg]
    refine ⟨by omega, hn, fun y hy hp hb => ?_⟩
    rcases Nat.lt_or_ge y n with e | e
    · have := h.2.2 y e hp
      simp only [better] at this hb
      omega
    · have : y = n := by omega
      subst this
      simp only [better] at hb
      omega
  · rw [if_neg hg]
    refine ⟨by have := h.1; omega, h.2.1, fun y hy hp hb => ?_⟩
    rcases Nat.lt_or_ge y n with e | e
    · exact h.2.2 y e hp hb
    · have : y = n := by omega
      subst this
      have := h.1
      simp only [better] at hb
      omega

theorem cs_hit (n : Nat) (fo fa fb : Nat → Nat) (o l k i : Nat) : (∃ c ∈ csOf n fo fa fb o l k, c.1 ≤ (i : Int) ∧ (i : Int) < c.2) ↔ hitB n fo fa fb o l k i = true := by
  rw [hitB_iff]
  constructor
  · rintro ⟨c, hc, h1, h2⟩
    simp only [csOf, List.mem_map, List.mem_filter, List.mem_range, beq_iff_eq] at hc
    obtain ⟨j, ⟨hj, hjo⟩, rfl⟩ := hc
    exact ⟨j, hj, hjo, by simp only at h1; omega, by simp only at h2; omega⟩
  · rintro ⟨j, hj, hjo, h1, h2⟩
    refine ⟨_, List.mem_map.2 ⟨j, by simp [hj, hjo], rfl⟩, by simp only; omega, by simp only; omega⟩

/-- WHAT bestWhere COMES TO. -/
theorem best_of {T : Tree} {o m ex N i n1 l : Nat} {ko : Nat → Nat} {gp : Nat → Int} {fo fa fb : Nat → Nat} (h : BI T o m ex m N ko gp (csOf n1 fo fa fb o l)) (hi : i < 2 ^ ex) (hko : ∀ x, x < m → ko x < o) (kp : Nat → Bool) :
    IsBest m (fun x => hitB n1 fo fa fb o l (ko x) i && kp x) gp ((Bw.init.run kp (visits T (2 ^ ex + i))).it.map Held.n) ∧
    ((Bw.init.run kp (visits T (2 ^ ex + i))).log ≠ [] ↔ ∃ x, x < m ∧ hitB n1 fo fa fb o l (ko x) i = true) ∧
    (∀ x ∈ (Bw.init.run kp (visits T (2 ^ ex + i))).log, x < m ∧ hitB n1 fo fa fb o l (ko x) i = true) := by
  have hv := h.visits_iff hi hko
  have ok := Bw.run_ok kp (visits T (2 ^ ex + i))
  have hin : ∀ x, x < m → hitB n1 fo fa fb o l (ko x) i = true → (⟨x, gp x, (x : Int)⟩ : Held) ∈ visits T (2 ^ ex + i) := fun x hx hh => (hv _).2 ⟨hx, rfl, rfl, (cs_hit n1 fo fa fb o l (ko x) i).2 hh⟩
  have hout : ∀ y ∈ visits T (2 ^ ex + i), y.n < m ∧ y.p = gp y.n ∧ y.q = (y.n : Int) ∧ hitB n1 fo fa fb o l (ko y.n) i = true := fun y hy => by
    obtain ⟨a, b, c, d⟩ := (hv y).1 hy
    exact ⟨a, b, c, (cs_hit n1 fo fa fb o l (ko y.n) i).1 d⟩
  refine ⟨?_, ⟨?_, ?_⟩, ?_⟩
  · cases hit : (Bw.init.run kp (visits T (2 ^ ex + i))).it with
    | none =>
      intro x hx
      cases hh : hitB n1 fo fa fb o l (ko x) i with
      | false => simp [hh]
      | true =>
        have := ok.none hit _ (hin x hx hh)
        simp only [hh, Bool.true_and]
        exact this
    | some y =>
      obtain ⟨h1, h2, h3⟩ := ok.best y hit
      obtain ⟨a, b, c, d⟩ := hout y h1
      refine ⟨a, by simp [d, h2], fun z hz hp hb => ?_⟩
      simp only [Bool.and_eq_true] at hp
      have := h3 _ (hin z hz hp.1) hp.2
      simp only [better] at hb
      simp only [lower] at this
      simp at this
      rw [b, c] at this
      omega
  · intro hl
    obtain ⟨x, hx⟩ := List.exists_mem_of_ne_nil _ hl
    obtain ⟨y, hy, rfl⟩ := ok.log x hx
    obtain ⟨a, _, _, d⟩ := hout y hy
    exact ⟨y.n, a, d⟩
  · rintro ⟨x, hx, hh⟩
    exact ok.some (List.ne_nil_of_mem (hin x hx hh))
  · intro x hx
    obtain ⟨y, hy, rfl⟩ := ok.log x hx
    obtain ⟨a, _, _, d⟩ := hout y hy
    exact ⟨a, d⟩

theorem new_bi {ex o m N : Nat} {ko : Nat → Nat} {gp : Nat → Int} {cs : Nat → List (Int × Int)} {T : Tree} (hT : T = ⟨2 ^ ex, List.replicate o [], List.replicate m (-1), List.replicate (2 * 2 ^ ex) [], [], [], List.replicate o (-1, -1)⟩) : BI T o m ex 0 N ko gp cs := by
  subst hT
  have g0 : ∀ k, (List.replicate o ([] : List Held)).getD k [] = [] := fun k => by
    simp only [List.getD, List.getElem?_replicate]; split <;> rfl
  have g1 : ∀ k, (List.replicate (2 * 2 ^ ex) ([] : List Held)).getD k [] = [] := fun k => by
    simp only [List.getD, List.getElem?_replicate]; split <;> rfl
  refine ⟨by simp, by simp, by simp, rfl, by simp, ?_, ?_, ⟨rfl, ?_, ?_, ?_, ?_⟩, ?_, ?_, ?_⟩
  · intro k _ i hi
    have : i < ((List.replicate o ([] : List Held)).getD k []).length := hi
    rw [g0] at this; simp at this
  · intro k _ y
    simp only [g0]
    simp
  · intro k _ i hi
    have : i < ((List.replicate (2 * 2 ^ ex) ([] : List Held)).getD k []).length := hi
    rw [g1] at this; simp at this
  · intro s p hp
    simp at hp
  · intro k _ y hy
    simp only [g1] at hy
    cases hy
  · intro s hs
    simp at hs
  · intro k hk
    left
    refine ⟨g0 k, ?_⟩
    show (List.replicate o ((-1 : Int), (-1 : Int)))[k]? = _
    rw [List.getElem?_replicate, if_pos hk]
  · intro s k nd hs
    simp at hs
  · simp only [List.length_nil, Nat.zero_add]
    have : (List.replicate o ((-1 : Int), (-1 : Int))).countP (fun p => decide (p = (-1, -1))) ≤ o := by
      have := List.countP_le_length (p := fun p => decide (p = ((-1 : Int), (-1 : Int)))) (l := List.replicate o ((-1 : Int), (-1 : Int)))
      simpa using this
    exact Nat.mul_le_mul_left _ this
end Go.Proofs.Ybulkcmtm
