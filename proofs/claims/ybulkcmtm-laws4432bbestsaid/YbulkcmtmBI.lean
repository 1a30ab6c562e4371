/- THE MODEL OF THE LAW ON bestWhere, AS PLAIN LEAN. No Go in sight. -/
import Derived.Test.YbulkcmtmFold
import Derived.Test.YbulkcmtmModel
namespace Go.Proofs.Ybulkcmtm

/-! ### COVERS -/

theorem cov_sound {E : Nat} {a b : Int} (h : Nat) : ∀ (n lo : Nat), lo + E = n * 2 ^ h → lo + 2 ^ h ≤ E → ∀ m ∈ cov h n lo a b, ∃ e lm : Nat, m * 2 ^ e = E + lm ∧ lm + 2 ^ e ≤ E ∧ a ≤ (lm : Int) ∧ ((lm + 2 ^ e : Nat) : Int) ≤ b := by
  induction h with
  | zero =>
    intro n lo h1 h2 m hm
    unfold cov at hm
    split at hm
    · cases hm
    · rename_i hno
      simp at hm
      subst hm
      exact ⟨0, lo, by omega, h2, by omega, by simp; omega⟩
  | succ h ih =>
    intro n lo h1 h2 m hm
    have hp : 2 ^ (h + 1) = 2 ^ h + 2 ^ h := by rw [Nat.pow_succ]; omega
    unfold cov at hm
    split at hm
    · cases hm
    · split at hm
      · rename_i hin
        simp at hm
        subst hm
        exact ⟨h + 1, lo, by omega, h2, hin.1, hin.2⟩
      · rcases List.mem_append.1 hm with x | x
        · refine ih (2 * n) lo ?_ (by omega) m x
          rw [h1, Nat.pow_succ, Nat.mul_comm (2 ^ h) 2, ← Nat.mul_assoc, Nat.mul_comm n 2]
        · refine ih (2 * n + 1) (lo + 2 ^ h) ?_ (by omega) m x
          rw [Nat.add_mul, Nat.one_mul]
          have : n * 2 ^ (h + 1) = 2 * n * 2 ^ h := by rw [Nat.pow_succ, Nat.mul_comm (2 ^ h) 2, ← Nat.mul_assoc, Nat.mul_comm n 2]
          omega

theorem cov_complete {E i : Nat} {a b : Int} (ha : a ≤ (i : Int)) (hb : (i : Int) < b) (h : Nat) : ∀ (n lo : Nat), lo + E = n * 2 ^ h → lo ≤ i → i < lo + 2 ^ h → ∃ m ∈ cov h n lo a b, ∃ e lm : Nat, m * 2 ^ e = E + lm ∧ lm ≤ i ∧ i < lm + 2 ^ e := by
  induction h with
  | zero =>
    intro n lo h1 h2 h3
    refine ⟨n, ?_, 0, lo, by omega, h2, h3⟩
    unfold cov
    rw [if_neg (by simp at h3; omega)]
    simp
  | succ h ih =>
    intro n lo h1 h2 h3
    have hp : 2 ^ (h + 1) = 2 ^ h + 2 ^ h := by rw [Nat.pow_succ]; omega
    have hn : n * 2 ^ (h + 1) = 2 * n * 2 ^ h := by rw [Nat.pow_succ, Nat.mul_comm (2 ^ h) 2, ← Nat.mul_assoc, Nat.mul_comm n 2]
    unfold cov
    rw [if_neg (by omega)]
    split
    · exact ⟨n, by simp, h + 1, lo, by omega, h2, h3⟩
    · by_cases hc : i < lo + 2 ^ h
      · obtain ⟨m, hm, r⟩ := ih (2 * n) lo (by omega) h2 hc
        exact ⟨m, List.mem_append.2 (.inl hm), r⟩
      · obtain ⟨m, hm, r⟩ := ih (2 * n + 1) (lo + 2 ^ h) (by rw [Nat.add_mul, Nat.one_mul]; omega) (by omega) (by omega)
        exact ⟨m, List.mem_append.2 (.inr hm), r⟩

/-- Leaf i lies under a node of the cover just where the stretch holds it. -/
theorem cov_hit {ex i : Nat} (hi : i < 2 ^ ex) (a b : Int) : (∃ d, (2 ^ ex + i) / 2 ^ d ∈ cov ex 1 0 a b) ↔ (a ≤ (i : Int) ∧ (i : Int) < b) := by
  constructor
  · rintro ⟨d, hd⟩
    obtain ⟨m, hm⟩ : ∃ m, (2 ^ ex + i) / 2 ^ d = m := ⟨_, rfl⟩
    rw [hm] at hd
    obtain ⟨e, lm, h1, h2, h3, h4⟩ := cov_sound (E := 2 ^ ex) ex 1 0 (by omega) (by omega) m hd
    have hpd : 0 < 2 ^ d := Nat.two_pow_pos d
    have hpe : 0 < 2 ^ e := Nat.two_pow_pos e
    have k1 : m * 2 ^ d ≤ 2 ^ ex + i := by rw [← hm]; exact Nat.div_mul_le_self _ _
    have k2 : 2 ^ ex + i < (m + 1) * 2 ^ d := by
      have := Nat.lt_mul_div_succ (2 ^ ex + i) hpd; rw [hm, Nat.mul_comm] at this; exact this
    have e1 : (m + 1) * 2 ^ e = m * 2 ^ e + 2 ^ e := by rw [Nat.add_mul, Nat.one_mul]
    have hde : d = e := by
      rcases Nat.lt_trichotomy d e with x | x | x
      · exfalso
        have hle : 2 ^ (d + 1) ≤ 2 ^ e := Nat.pow_le_pow_right (by omega) x
        have : (m + 1) * 2 ^ (d + 1) ≤ (m + 1) * 2 ^ e := Nat.mul_le_mul_left _ hle
        rw [Nat.pow_succ, ← Nat.mul_assoc] at this
        omega
      · exact x
      · exfalso
        have hle : 2 ^ (e + 1) ≤ 2 ^ d := Nat.pow_le_pow_right (by omega) x
        have : m * 2 ^ (e + 1) ≤ m * 2 ^ d := Nat.mul_le_mul_left _ hle
        rw [Nat.pow_succ, ← Nat.mul_assoc] at this
        omega
    subst hde
    omega
  · rintro ⟨ha, hb⟩
    obtain ⟨m, hm, e, lm, h1, h2, h3⟩ := cov_complete (E := 2 ^ ex) ha hb ex 1 0 (by omega) (by omega) (by omega)
    refine ⟨e, ?_⟩
    have : (2 ^ ex + i) / 2 ^ e = m := by
      rw [Nat.div_eq_iff (Nat.two_pow_pos e)]
      omega
    rw [this]; exact hm

theorem visits_mem (T : Tree) (y : Held) (k : Nat) : y ∈ visits T k ↔ ∃ d, k / 2 ^ d ≠ 0 ∧ y ∈ visit T (T.hd.getD (k / 2 ^ d) []) := by
  induction k using Nat.strongRecOn with
  | _ k ih =>
    by_cases h : k = 0
    · subst h
      rw [visits_zero]
      simp
    · rw [visits_pos T h, List.mem_append, ih (k / 2) (by omega)]
      constructor
      · rintro (x | ⟨d, h1, h2⟩)
        · exact ⟨0, by simpa using h, by simpa using x⟩
        · refine ⟨d + 1, ?_, ?_⟩
          · rw [Nat.pow_succ, Nat.mul_comm, ← Nat.div_div_eq_div_mul]; exact h1
          · rw [Nat.pow_succ, Nat.mul_comm, ← Nat.div_div_eq_div_mul]; exact h2
      · rintro ⟨d, h1, h2⟩
        cases d with
        | zero => left; simpa using h2
        | succ d =>
          right
          rw [Nat.pow_succ, Nat.mul_comm, ← Nat.div_div_eq_div_mul] at h1 h2
          exact ⟨d, h1, h2⟩
end Go.Proofs.Ybulkcmtm
