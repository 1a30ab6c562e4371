/- (*ranked).Pop. -/
import Derived.Test.YbulkcmtmPush
namespace Go.Proofs.Ybulkcmtm
open Go.RowKit

section
variable {base qb qo tb ao : Nat} {v va : Value}

/-- 'q.items = ..': another slice that owns what it shows. -/
theorem QS.reslice {s : Qu} {W : World} {v' : Value} {it' : List Held} (h : QS W base qb qo tb ao v va s) (ho : W.ownsRow base 72 3 v' it'.length (flat it')) :
    QS (W.setCell ⟨qb, qo, none⟩ v') base qb qo tb ao v' va ⟨it', s.at_⟩ := by
  obtain ⟨c, hc⟩ := h.tq
  obtain ⟨c', hc'⟩ := h.tt
  have hqt := h.qt
  refine ⟨World.cell?_setCell_same' _ _ _ (by rw [h.it]; rfl), ?_, ?_, own_other ho (own_ne ho hc (by decide)) _, own_other h.ats h.aq _, ?_, ⟨c', (Below.heap_setCell _ _ _ _ (fun e => hqt e.symm)).trans hc'⟩⟩
  · rw [World.cell?_setCell_other _ _ _ _ (by simp)]; exact h.atp
  · rw [World.cell?_setCell_other _ _ _ _ (by simp)]; exact h.sl
  · refine ⟨c.setIfInBounds qo v', ?_⟩
    show (W.heap.modify qb _)[qb]? = _
    rw [Array.getElem?_modify, if_pos rfl, hc]
    simp

theorem own_drop {W : World} {g n m cap : Nat} {e : TypeId} {size : Nat} {xs : List Value} (h : W.ownsRow base e size (.slice (some ⟨g, 0, none⟩) n cap) n xs) (hm : m ≤ n) :
    W.ownsRow base e size (.slice (some ⟨g, 0, none⟩) m cap) m (xs.take (m * size)) := by
  have hms : m * size ≤ n * size := Nat.mul_le_mul_right _ hm
  refine ⟨by rw [List.length_take, h.1]; omega, ?_⟩
  rcases h.2 with ⟨e, _⟩ | ⟨g', cp, cur, e, hb, hk, h1, h2, h3, h4⟩
  · cases e
  · cases e
    refine .inr ⟨g, cap, cur, rfl, hb, hk, by omega, h2, h3, ?_⟩
    rw [← h4, List.take_take, Nat.min_eq_left hms]

set_option maxHeartbeats 4000000 in
set_option maxRecDepth 100000 in
theorem pop49 {s : Qu} (w : World) (h : QS w base qb qo tb ao v va s) (hw : s.WF) (hl : 0 < s.it.length) (hm : s.it.length ≤ 100000) :
    Calls Yba.prog 49 #[.pointer (some ⟨qb, qo, none⟩)] w fun e w' => (∃ v, e = .returned v) ∧
      ∃ v', QS w' base qb qo tb ao v' va s.pop ∧ Touch (fun k => qblocks v va k ∨ k = qb) w w' ∧ v'.ownBlock = v.ownBlock ∧ qset w w' qb qo v' := by
  obtain ⟨m, hlm⟩ : ∃ m, s.it.length = m + 1 := ⟨s.it.length - 1, by omega⟩
  obtain ⟨hx, hold⟩ := hw m (by omega)
  obtain ⟨g, cap, rfl⟩ := h.form hl
  obtain ⟨ab, cm, rfl⟩ := h.aform (by omega)
  obtain ⟨a0, a1, a2⟩ := h.item (g := g) rfl (i := m) (by omega)
  obtain ⟨x, hxx⟩ : ∃ x, s.g m = x := ⟨_, rfl⟩
  rw [hxx] at a0 a1 a2 hx hold
  have h0 := h.it
  have h1 := h.atp
  have h2 := h.sl
  have fz := own_frozen h.ats (g := ab) rfl
  have i4 : (0 : Int) ≤ (x.n : Int) := by omega
  have i5 : (x.n : Int) < (s.at_.length : Int) := by omega
  have c1 : w.cell? ⟨ab, x.n, none⟩ = some (.int .i64 (m : Int)) := h.place (g := ab) rfl hold
  have lw := World.block_lt_of_cell? w _ c1
  have lq := World.block_lt_of_cell? w _ h0
  have lt := World.block_lt_of_cell? w _ h2
  have lg := World.block_lt_of_cell? w _ a0
  rw [hlm] at h0
  have i6 : (0 : Int) ≤ (m : Int) := by omega
  have i7 : (m : Int) < (m : Int) + 1 := by omega
  have i8 : (m : Int) < 1000000 := by omega
  have hcap : m + 1 ≤ cap := by
    rcases h.own.2 with ⟨e, _⟩ | ⟨_, cp, _, e, _, _, e1, _⟩
    · cases e
    · cases e; omega
  have i9 : (m : Int) ≤ (cap : Int) := by omega
  have fq : w.frozen? ⟨qb, qo, none⟩ = false := by obtain ⟨c, hc⟩ := h.tq; simp [World.frozen?, hc]
  have n1 : ab ≠ qb := fun e => h.aq (by simp [Value.ownBlock, e])
  go_enter Yba.func49, Yba.ntmps49
  go_wp2_with fail
  go_region
  go_wp2_with fail
  go_region
  go_wp2_with fail
  go_region
  go_wp2_with fail
  have hQ1 := h.setAt (g := ab) rfl x.n (-1)
  have hT1 := (Touch.refl (fun k => qblocks (.slice (some ⟨g, 0, none⟩) s.it.length cap) (.slice (some ⟨ab, 0, none⟩) s.at_.length cm) k ∨ k = qb) w).set (p := ⟨ab, x.n, none⟩) (.inl (.inr rfl)) (.int .i64 (-1))
  have ho := own_drop (m := m) hQ1.own (show m ≤ s.it.length by omega)
  have e1 : (flat s.it).take (m * 3) = flat s.it.dropLast := by rw [flat_dropLast, show s.it.length - 1 = m by omega]
  have e2 : s.it.dropLast.length = m := by simp; omega
  simp only [e1] at ho
  have hQ2 := hQ1.reslice (it' := s.it.dropLast) (by rw [e2]; exact ho)
  have hT2 := hT1.set (p := ⟨qb, qo, none⟩) (.inr rfl) (.slice (some ⟨g, 0, none⟩) m cap)
  go_ret
  refine ⟨⟨_, rfl⟩, .slice (some ⟨g, 0, none⟩) m cap, ?_, (hT2.trans (Touch.below ((Below.refl _ _).alloc (Nat.le_refl _) _))).drew.drew.drew, rfl, ?_⟩
  rotate_left
  · refine qset_keep (qset_of (w1 := w.setCell ⟨ab, x.n, none⟩ (.int .i64 (-1))) (Below.heap_setCell _ _ _ _ (fun e => n1 e.symm))) ?_
    exact Below.heap_alloc _ _ _ (by simpa using lq)
  have e3 : s.pop = ⟨s.it.dropLast, s.at_.set x.n (-1)⟩ := by unfold Qu.pop; rw [show s.it.length - 1 = m by omega, hxx]
  rw [e3]
  exact (hQ2.below ((Below.refl _ _).alloc (Nat.le_refl _) _)).drew.drew.drew
end
end Go.Proofs.Ybulkcmtm
