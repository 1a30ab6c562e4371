/- (*ranked).Len, rank.below, (*ranked).Less. -/
import Derived.Test.YbulkcmtmRows
import Derived.WalkKit
import Derived.WalkSpells
import Derived.WalkLawsBesides
import Derived.Deep.QuietTactic
import Derived.BigQuiet
import Derived.BigRegion
import Derived.Deep.RegionHeld3
import Derived.Below
namespace Go.Proofs.Ybulkcmtm
open Go.RowKit

theorem len47 (qb qo : Nat) (a : Option Addr) (n cap : Nat) (w : World) (h : w.cell? ⟨qb, qo, none⟩ = some (.slice a n cap)) :
    Calls Yba.prog 47 #[.pointer (some ⟨qb, qo, none⟩)] w fun e w' => e = .returned (.int .i64 n) ∧ w' = w := by
  go_enter Yba.func47, Yba.ntmps47
  go_wp2
  go_ret
  exact ⟨rfl, rfl⟩

/-- a ranks below b. -/
def lower (p1 q1 p2 q2 : Int) : Bool := decide (p1 < p2) || (p1 == p2 && decide (q2 < q1))

set_option maxHeartbeats 800000 in
theorem below21 (p1 q1 p2 q2 : Int) (w : World) :
    Calls Yba.prog 21 #[.agg #[.int .i64 p1, .int .i64 q1], .agg #[.int .i64 p2, .int .i64 q2]] w fun e w' => e = .returned (.bool (lower p1 q1 p2 q2)) ∧ Below w.heap.size w w' := by
  have hb : Below w.heap.size w ((w.alloc (.cells #[.int .i64 p1, .int .i64 q1] 28)).alloc (.cells #[.int .i64 p2, .int .i64 q2] 28)) := ((Below.refl _ w).alloc (Nat.le_refl _) _).alloc (by simp) _
  by_cases h1 : p1 < p2
  · go_enter Yba.func21, Yba.ntmps21
    go_wp2
    go_ret
    exact ⟨by simp [lower, h1], hb⟩
  · by_cases h2 : p1 = p2
    · subst h2
      by_cases h3 : q2 < q1
      · go_enter Yba.func21, Yba.ntmps21
        go_wp2
        go_ret
        exact ⟨by simp [lower, h3], hb⟩
      · go_enter Yba.func21, Yba.ntmps21
        go_wp2
        go_ret
        exact ⟨by simp [lower, h3], hb⟩
    · go_enter Yba.func21, Yba.ntmps21
      go_wp2
      go_ret
      exact ⟨by simp [lower, h1, h2], hb⟩

theorem cell_below {W W' : World} {p : Addr} {v : Value} (hb : Below W.heap.size W W') (h : W.cell? p = some v) : W'.cell? p = some v := (hb.cell (World.block_lt_of_cell? _ _ h)).trans h

theorem less_keep {w W W' : World} {qb qo g n cap a b : Nat} {p1 q1 p2 q2 : Int} (h : Below w.heap.size w W ∧ W.cell? ⟨qb, qo, none⟩ = some (.slice (some ⟨g, 0, none⟩) n cap) ∧ W.cell? ⟨g, a * 3 + 1, none⟩ = some (.int .i64 p1) ∧ W.cell? ⟨g, a * 3 + 2, none⟩ = some (.int .i64 q1) ∧ W.cell? ⟨g, b * 3 + 1, none⟩ = some (.int .i64 p2) ∧ W.cell? ⟨g, b * 3 + 2, none⟩ = some (.int .i64 q2)) (hb : Below W.heap.size W W') :
    Below w.heap.size w W' ∧ W'.cell? ⟨qb, qo, none⟩ = some (.slice (some ⟨g, 0, none⟩) n cap) ∧ W'.cell? ⟨g, a * 3 + 1, none⟩ = some (.int .i64 p1) ∧ W'.cell? ⟨g, a * 3 + 2, none⟩ = some (.int .i64 q1) ∧ W'.cell? ⟨g, b * 3 + 1, none⟩ = some (.int .i64 p2) ∧ W'.cell? ⟨g, b * 3 + 2, none⟩ = some (.int .i64 q2) :=
  ⟨h.1.trans (hb.mono h.1.size), cell_below hb h.2.1, cell_below hb h.2.2.1, cell_below hb h.2.2.2.1, cell_below hb h.2.2.2.2.1, cell_below hb h.2.2.2.2.2⟩

set_option maxHeartbeats 1600000 in
/-- Less at two places of the queue: is b below a? -/
theorem less48 (qb qo g n cap a b : Nat) (p1 q1 p2 q2 : Int) (w : World) (ha : a < n) (hb : b < n) (h : w.cell? ⟨qb, qo, none⟩ = some (.slice (some ⟨g, 0, none⟩) n cap))
    (a1 : w.cell? ⟨g, a * 3 + 1, none⟩ = some (.int .i64 p1)) (a2 : w.cell? ⟨g, a * 3 + 2, none⟩ = some (.int .i64 q1))
    (b1 : w.cell? ⟨g, b * 3 + 1, none⟩ = some (.int .i64 p2)) (b2 : w.cell? ⟨g, b * 3 + 2, none⟩ = some (.int .i64 q2)) :
    Calls Yba.prog 48 #[.pointer (some ⟨qb, qo, none⟩), .int .i64 a, .int .i64 b] w fun e w' => e = .returned (.bool (lower p2 q2 p1 q1)) ∧ Below w.heap.size w w' := by
  have i0 : (0 : Int) ≤ (a : Int) := by omega
  have i1 : (a : Int) < (n : Int) := by omega
  have i2 : (0 : Int) ≤ (b : Int) := by omega
  have i3 : (b : Int) < (n : Int) := by omega
  go_enter Yba.func48, Yba.ntmps48
  go_wp2_with fail
  go_region_held3 (fun W => Below w.heap.size w W ∧ W.cell? ⟨qb, qo, none⟩ = some (.slice (some ⟨g, 0, none⟩) n cap) ∧ W.cell? ⟨g, a * 3 + 1, none⟩ = some (.int .i64 p1) ∧ W.cell? ⟨g, a * 3 + 2, none⟩ = some (.int .i64 q1) ∧ W.cell? ⟨g, b * 3 + 1, none⟩ = some (.int .i64 p2) ∧ W.cell? ⟨g, b * 3 + 2, none⟩ = some (.int .i64 q2))
    (first | exact ⟨(Below.refl _ _).drew, h, a1, a2, b1, b2⟩ | exact less_keep (by assumption) hb') ((go_at_call 21; refine (below21 _ _ _ _ _).mono ?_; rintro e W' ⟨rfl, hb'⟩))
  go_wp2
  go_ret
  exact ⟨rfl, (Below.refl _ w).drew.trans hb'⟩
end Go.Proofs.Ybulkcmtm
