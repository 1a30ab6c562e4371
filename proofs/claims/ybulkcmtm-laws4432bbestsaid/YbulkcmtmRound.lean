/- A REGION THAT DRAWS ITS ORDER, IN A ROUND: it is walked as outside of one. -/
import Derived.RangeFuncFrom
import Derived.OwnWalkIn
import Derived.OrdersIn
import Derived.TacticsIn
namespace Go.Proofs.Ybulkcmtm
open Go.RowKit

variable {n : Nat} {P : Program} {ops : Array Oper} {Q : Exit → Act → World → Prop} {md : Region.Mode}

theorem op_round {l i : Nat} (hd : ∀ o ∈ ops, ∀ c, o.op ≠ .defer c) {K K' : Act → World → Prop} (hK : ∀ a w, K a w → K' a w) {a : Act} {w : World} (h : wpOpIn Fence.wide n P ops Q i K a w) : wpOpIn (Fence.wide.inRound l) n P ops Q i K' a w := by
  have h1 := wpOpIn_mono hK h
  unfold wpOpIn at *
  cases ho : ops[i]? with
  | none => simpa [ho] using h1
  | some o =>
    simp only [ho] at h1 ⊢
    split
    · rename_i hw
      rw [if_pos hw] at h1
      have hnd := hd o (Array.mem_of_getElem? ho)
      unfold Oper.wpIn at *
      refine ⟨h1.1, ?_⟩
      have e : o.semAt (Fence.wide.inRound l).round a.eval = o.semAt Fence.wide.round a.eval := by
        rw [Oper.semAt_eq _ _ _ hnd, Oper.semAt_eq _ _ _ hnd]
      rw [e]
      exact h1.2
    · rename_i hw
      rw [if_neg hw] at h1
      exact h1

theorem any_round {l : Nat} (hd : ∀ o ∈ ops, ∀ c, o.op ≠ .defer c) : ∀ (fuel : Nat) (listed : Array Bool) (a : Act) (w : World), wpAnyIn Fence.wide n P md ops Q fuel listed a w → wpAnyIn (Fence.wide.inRound l) n P md ops Q fuel listed a w
  | 0, _, _, _, h => h
  | fuel + 1, _, _, _, h => ⟨h.1, fun i hi => op_round hd (fun a w => any_round hd fuel _ a w) (h.2 i hi)⟩

/-- THE LAW. -/
theorem region_round {l id : Nat} {a : Act} {w : World} (hm : P.follows .mixedOrders = true) (hd : ∀ o ∈ ops, ∀ c, o.op ≠ .defer c)
    (h : wpAnyIn Fence.wide n P .any ops Q ops.size (Array.replicate ops.size false) a w.drew) : (Code.region id ops true).wpIn (Fence.wide.inRound l) n P Q a w :=
  wpIn_region_any hm (any_round hd _ _ _ _ h)
end Go.Proofs.Ybulkcmtm
