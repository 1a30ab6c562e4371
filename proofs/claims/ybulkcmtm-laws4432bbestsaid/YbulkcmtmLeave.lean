/- (*offerTree).leave. -/
import Derived.Test.YbulkcmtmMoves
import Derived.Deep.RegionLaw
namespace Go.Proofs.Ybulkcmtm
open Go.RowKit

section
variable {base tb : Nat} {T : Tree} {l : Lay}

theorem mkI (p : Option Addr) (w : World) : (Instr.makeInterface 70 (.pointer p)).run Yba.prog w = .ok (.iface 70 (.pointer p)) w := by kernel_rfl

set_option maxHeartbeats 4000000 in
set_option maxRecDepth 100000 in
theorem leave_in (w : World) (h : TS w base tb T l) (k n i : Nat) (hk : k < T.off.length) (hn : T.oAt[n]? = some (i : Int)) (hi : i < (T.off.getD k []).length) (hw : (Qu.mk (T.off.getD k []) T.oAt).WF) (hm : (T.off.getD k []).length ≤ 90000) (hm2 : T.off.length ≤ 90000) (hm3 : T.oAt.length ≤ 90000) :
    Calls Yba.prog 13 #[.pointer (some ⟨tb, 0, none⟩), .int .i64 k, .int .i64 n] w fun e w' => (∃ v, e = .returned v) ∧
      ∃ l', TS w' base tb { T with off := T.off.set k ((Qu.mk (T.off.getD k []) T.oAt).remove i).it, oAt := ((Qu.mk (T.off.getD k []) T.oAt).remove i).at_ } l' ∧ Moves tb l w l' w' := by
  have hnl : n < T.oAt.length := (List.getElem?_eq_some_iff.1 hn).1
  obtain ⟨qb, cq, hvO⟩ := h.offs.block (by omega)
  obtain ⟨ab, cpa, hvA, _⟩ := h.rA.form (by omega)
  have hq : l.vO.ownBlock = some qb := by rw [hvO]; rfl
  have hQ := h.offs.queue hq hk h.c5 h.rA h.tt
  have c4 := h.c4
  have c5 := h.c5
  rw [hvO] at c4
  rw [hvA] at c5
  have ca := hQ.place (g := ab) (by rw [hvA]; rfl) hn
  have i0 : (0 : Int) ≤ (n : Int) := by omega
  have i1 : (n : Int) < (T.oAt.length : Int) := by omega
  have i2 : (0 : Int) ≤ (k : Int) := by omega
  have i3 : (k : Int) < (T.off.length : Int) := by omega
  have i4 : (0 : Int) ≤ (i : Int) := by omega
  have hmk := mkI

  clear hvO hvA hn
  go_enter Yba.func13, Yba.ntmps13
  go_wp2_with fail
  go_region_with ((go_at_call 24; refine (remove24 _ hQ.drew hw i hi hm).mono ?_; rintro e W1 ⟨⟨u, rfl⟩, v', hQ1, hT1, ho1, hs1⟩))
  all_goals
    have hT : Touch (fun j => qblocks (l.iO.getD k nilS) l.vA j ∨ j = qb) w W1 := ((Touch.refl _ w).drew).trans hT1
    have hs : qset w W1 qb (k * 2) v' := hs1
    have hTS := h.updO hq hk hT hs hQ1 (.inl ho1)
    have hbe := moves_O h hq hk hT (.inl ho1)
    go_end0
    exact ⟨⟨_, rfl⟩, _, hTS, hbe⟩

theorem leave_out (w : World) (h : TS w base tb T l) (k n : Nat) (hn : T.oAt[n]? = some (-1)) :
    Calls Yba.prog 13 #[.pointer (some ⟨tb, 0, none⟩), .int .i64 k, .int .i64 n] w fun e w' => (∃ v, e = .returned v) ∧ w' = w := by
  have hnl : n < T.oAt.length := (List.getElem?_eq_some_iff.1 hn).1
  obtain ⟨ab, cpa, hvA, _⟩ := h.rA.form (by omega)
  have c5 := h.c5
  have ca := own_cell h.rA (g := ab) (by rw [hvA]; rfl) (j := n) (u := .int .i64 (-1)) (by simp [ints, hn])
  rw [hvA] at c5
  have i0 : (0 : Int) ≤ (n : Int) := by omega
  have i1 : (n : Int) < (T.oAt.length : Int) := by omega
  clear hvA hn
  go_enter Yba.func13, Yba.ntmps13
  go_wp2
  go_end0
  exact ⟨⟨_, rfl⟩, rfl⟩
end
end Go.Proofs.Ybulkcmtm
