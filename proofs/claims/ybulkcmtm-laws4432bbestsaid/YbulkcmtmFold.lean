/- bestWhere AS PLAIN LEAN: a fold over the items that it visits. No Go in sight. -/
import Derived.Test.YbulkcmtmOrder
import Derived.Test.YbulkcmtmStand
namespace Go.Proofs.Ybulkcmtm

/-- What bestWhere holds: the best so far; whom it has asked about. -/
structure Bw where
  it : Option Held
  log : List Nat

def Bw.wants (s : Bw) (y : Held) : Bool := match s.it with | none => true | some x => lower x.p x.q y.p y.q
def Bw.step (kp : Nat → Bool) (s : Bw) (y : Held) : Bw := if s.wants y then ⟨if kp y.n then some y else s.it, s.log ++ [y.n]⟩ else s
def Bw.run (kp : Nat → Bool) (s : Bw) (l : List Held) : Bw := l.foldl (Bw.step kp) s

theorem Bw.run_cons (kp : Nat → Bool) (s : Bw) (y : Held) (l : List Held) : s.run kp (y :: l) = (s.step kp y).run kp l := rfl
theorem Bw.run_nil (kp : Nat → Bool) (s : Bw) : s.run kp [] = s := rfl

/-- The items of the offers that stand at a node. -/
def visit (T : Tree) (hs : List Held) : List Held := hs.flatMap fun h => T.off.getD ((T.st.getD h.n (0, 0)).1.toNat) []
/-- .. at a node and above it. -/
def visits (T : Tree) (k : Nat) : List Held := if _h : k = 0 then [] else visit T (T.hd.getD k []) ++ visits T (k / 2)
termination_by k
decreasing_by omega

theorem visits_zero (T : Tree) : visits T 0 = [] := by rw [visits]; simp
theorem visits_pos (T : Tree) {k : Nat} (h : k ≠ 0) : visits T k = visit T (T.hd.getD k []) ++ visits T (k / 2) := by rw [visits, dif_neg h]

def Bw.init : Bw := ⟨none, []⟩

theorem lower_not {p1 q1 p2 q2 : Int} (h : lower p1 q1 p2 q2 = false) : lower p2 q2 p1 q1 = true ∨ (p1 = p2 ∧ q1 = q2) := by
  simp only [lower] at *; simp at *; omega

/-- What the fold keeps. -/
structure Bw.Ok (kp : Nat → Bool) (s : Bw) (l : List Held) : Prop where
  log : ∀ x ∈ s.log, ∃ y ∈ l, y.n = x
  some : l ≠ [] → s.log ≠ []
  none : s.it = none → ∀ y ∈ l, kp y.n = false
  best : ∀ x, s.it = .some x → x ∈ l ∧ kp x.n = true ∧ ∀ y ∈ l, kp y.n = true → lower x.p x.q y.p y.q = false

theorem Bw.Ok.step {kp : Nat → Bool} {s : Bw} {l : List Held} (h : Bw.Ok kp s l) (y : Held) : Bw.Ok kp (s.step kp y) (l ++ [y]) := by
  unfold Bw.step
  cases hw : s.wants y with
  | true =>
    rw [if_pos rfl]
    refine ⟨?_, ?_, ?_, ?_⟩
    · intro x hx
      simp only [List.mem_append, List.mem_singleton] at hx
      rcases hx with hx | rfl
      · obtain ⟨z, hz, e⟩ := h.log x hx; exact ⟨z, by simp [hz], e⟩
      · exact ⟨y, by simp, rfl⟩
    · intro _; simp
    · intro hn z hz
      simp only at hn
      cases hk : kp y.n with
      | true => rw [hk] at hn; simp at hn
      | false =>
        rw [hk] at hn
        simp at hn
        simp only [List.mem_append, List.mem_singleton] at hz
        rcases hz with hz | rfl
        · exact h.none hn z hz
        · exact hk
    · intro x hx
      simp only at hx
      cases hk : kp y.n with
      | true =>
        rw [hk] at hx
        simp at hx
        subst hx
        refine ⟨by simp, hk, ?_⟩
        intro z hz hkz
        simp only [List.mem_append, List.mem_singleton] at hz
        rcases hz with hz | rfl
        · cases hi : s.it with
          | none => have := h.none hi z hz; rw [this] at hkz; cases hkz
          | some x0 =>
            have h1 := (h.best x0 hi).2.2 z hz hkz
            have h2 : lower x0.p x0.q y.p y.q = true := by simpa [Bw.wants, hi] using hw
            simp only [lower] at *; simp at *; omega
        · simp [lower]
      | false =>
        rw [hk] at hx
        simp at hx
        obtain ⟨h1, h2, h3⟩ := h.best x hx
        refine ⟨by simp [h1], h2, ?_⟩
        intro z hz hkz
        simp only [List.mem_append, List.mem_singleton] at hz
        rcases hz with hz | rfl
        · exact h3 z hz hkz
        · rw [hk] at hkz; cases hkz
  | false =>
    rw [if_neg (by simp)]
    have hs : ∃ x0, s.it = .some x0 ∧ lower x0.p x0.q y.p y.q = false := by
      cases hi : s.it with
      | none => simp [Bw.wants, hi] at hw
      | some x0 => exact ⟨x0, rfl, by simpa [Bw.wants, hi] using hw⟩
    obtain ⟨x0, hi, hl⟩ := hs
    refine ⟨fun x hx => ?_, fun _ => ?_, fun hn => ?_, fun x hx => ?_⟩
    · obtain ⟨z, hz, e⟩ := h.log x hx; exact ⟨z, by simp [hz], e⟩
    · exact h.some (fun e => by have := (h.best x0 hi).1; rw [e] at this; cases this)
    · rw [hi] at hn; cases hn
    · obtain ⟨h1, h2, h3⟩ := h.best x hx
      rw [hi] at hx
      cases hx
      refine ⟨by simp [h1], h2, ?_⟩
      intro z hz hkz
      simp only [List.mem_append, List.mem_singleton] at hz
      rcases hz with hz | rfl
      · exact h3 z hz hkz
      · exact hl

theorem Bw.run_ok (kp : Nat → Bool) (l : List Held) : Bw.Ok kp (Bw.init.run kp l) l := by
  have key : ∀ (l : List Held) (s : Bw) (pre : List Held), Bw.Ok kp s pre → Bw.Ok kp (s.run kp l) (pre ++ l) := by
    intro l
    induction l with
    | nil => intro s pre h; simpa [Bw.run_nil] using h
    | cons y l ih =>
      intro s pre h
      rw [Bw.run_cons]
      have := ih _ _ (h.step y)
      simpa using this
  have := key l Bw.init [] ⟨by simp [Bw.init], fun h => absurd rfl h, fun _ y hy => by simp at hy, fun x hx => by simp [Bw.init] at hx⟩
  simpa using this

theorem Bw.run_log_len (kp : Nat → Bool) (l : List Held) : ∀ s : Bw, (s.run kp l).log.length ≤ s.log.length + l.length := by
  induction l with
  | nil => intro s; simp [Bw.run_nil]
  | cons y l ih =>
    intro s
    rw [Bw.run_cons]
    have h1 := ih (s.step kp y)
    have h2 : (s.step kp y).log.length ≤ s.log.length + 1 := by
      unfold Bw.step; split <;> simp
    simp only [List.length_cons]
    omega
end Go.Proofs.Ybulkcmtm
