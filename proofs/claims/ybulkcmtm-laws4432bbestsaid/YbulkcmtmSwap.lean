/- (*ranked).Swap. -/
import Derived.Test.YbulkcmtmQueue
namespace Go.Proofs.Ybulkcmtm
open Go.RowKit

section
variable {base qb qo tb ao : Nat} {v va : Value} {s : Qu}

theorem QS.form {w : World} (h : QS w base qb qo tb ao v va s) (hl : 0 < s.it.length) : ∃ g cap, v = .slice (some ⟨g, 0, none⟩) s.it.length cap := by
  obtain ⟨g, cap, e, _⟩ := h.own.form hl
  exact ⟨g, cap, e⟩
theorem QS.aform {w : World} (h : QS w base qb qo tb ao v va s) (hl : 0 < s.at_.length) : ∃ g cap, va = .slice (some ⟨g, 0, none⟩) s.at_.length cap := by
  obtain ⟨g, cap, e, _⟩ := h.ats.form hl
  exact ⟨g, cap, e⟩

theorem less_q (w : World) (h : QS w base qb qo tb ao v va s) (a b : Nat) (ha : a < s.it.length) (hb : b < s.it.length) :
    Calls Yba.prog 48 #[.pointer (some ⟨qb, qo, none⟩), .int .i64 a, .int .i64 b] w fun e w' => e = .returned (.bool (s.less a b)) ∧ Below w.heap.size w w' := by
  obtain ⟨g, cap, rfl⟩ := h.form (by omega)
  obtain ⟨_, a1, a2⟩ := h.item (g := g) rfl ha
  obtain ⟨_, b1, b2⟩ := h.item (g := g) rfl hb
  exact less48 qb qo g s.it.length cap a b _ _ _ _ w ha hb h.it a1 a2 b1 b2

set_option maxHeartbeats 16000000 in
set_option maxRecDepth 100000 in
theorem swap_q (w : World) (h : QS w base qb qo tb ao v va s) (hw : s.WF) (a b : Nat) (ha : a < s.it.length) (hb : b < s.it.length) (hab : a ≠ b) :
    Calls Yba.prog 51 #[.pointer (some ⟨qb, qo, none⟩), .int .i64 a, .int .i64 b] w fun e w' => (∃ v, e = .returned v) ∧ QS w' base qb qo tb ao v va (s.swp a b) ∧ Touch (qblocks v va) w w' := by
  obtain ⟨g, cap, rfl⟩ := h.form (by omega)
  have hla := (hw a ha).1
  have hlb := (hw b hb).1
  obtain ⟨ab, cm, rfl⟩ := h.aform (by omega)
  obtain ⟨a0, a1, a2⟩ := h.item (g := g) rfl ha
  obtain ⟨b0, b1, b2⟩ := h.item (g := g) rfl hb
  have fz := own_frozen h.own (g := g) rfl
  have h0 := h.it
  have i0 : (0 : Int) ≤ (a : Int) := by omega
  have i1 : (a : Int) < (s.it.length : Int) := by omega
  have i2 : (0 : Int) ≤ (b : Int) := by omega
  have i3 : (b : Int) < (s.it.length : Int) := by omega
  have hQ := ((h.setIt (g := g) rfl a (s.g b)).setIt (g := g) rfl b (s.g a)).drew
  have hT := ((((((((Touch.refl (qblocks (.slice (some ⟨g, 0, none⟩) s.it.length cap) (.slice (some ⟨ab, 0, none⟩) s.at_.length cm)) w).set (p := ⟨g, a * 3, none⟩) (.inl rfl) (.int .i64 ((s.g b).n : Int))).set (p := ⟨g, a * 3 + 1, none⟩) (.inl rfl) (.int .i64 (s.g b).p)).set (p := ⟨g, a * 3 + 2, none⟩) (.inl rfl) (.int .i64 (s.g b).q)).set (p := ⟨g, b * 3, none⟩) (.inl rfl) (.int .i64 ((s.g a).n : Int))).set (p := ⟨g, b * 3 + 1, none⟩) (.inl rfl) (.int .i64 (s.g a).p)).set (p := ⟨g, b * 3 + 2, none⟩) (.inl rfl) (.int .i64 (s.g a).q)).drew)
  clear h
  go_enter Yba.func51, Yba.ntmps51
  go_wp2_with fail
  go_region
  generalize World.drew _ = W1 at hQ hT ⊢
  clear a0 a1 a2 b0 b1 b2 fz h0
  have sg : ∀ i, (Qu.mk ((s.it.set a (s.g b)).set b (s.g a)) s.at_).g i = (s.swp a b).g i := fun i => rfl
  have hA : a < ((s.it.set a (s.g b)).set b (s.g a)).length := by simpa using ha
  have hB : b < ((s.it.set a (s.g b)).set b (s.g a)).length := by simpa using hb
  obtain ⟨a0, _, _⟩ := hQ.item (g := g) rfl hA
  obtain ⟨b0, _, _⟩ := hQ.item (g := g) rfl hB
  rw [sg, s.swp_g ha hb, if_neg hab, if_pos rfl] at a0
  rw [sg, s.swp_g ha hb, if_pos rfl] at b0
  have h0 := hQ.it
  have h1 := hQ.atp
  have h2 := hQ.sl
  have fz := own_frozen hQ.ats (g := ab) rfl
  have hne : (s.g a).n ≠ (s.g b).n := fun e => hab (hw.inj ha hb e)
  have c1 : W1.cell? ⟨ab, (s.g a).n, none⟩ = some (.int .i64 a) := hQ.place (g := ab) rfl (hw a ha).2
  have c2 : W1.cell? ⟨ab, (s.g b).n, none⟩ = some (.int .i64 b) := hQ.place (g := ab) rfl (hw b hb).2
  have i4 : (0 : Int) ≤ ((s.g a).n : Int) := by omega
  have i5 : ((s.g a).n : Int) < (s.at_.length : Int) := by omega
  have i6 : (0 : Int) ≤ ((s.g b).n : Int) := by omega
  have i7 : ((s.g b).n : Int) < (s.at_.length : Int) := by omega
  have hQ2 := ((hQ.setAt (g := ab) rfl (s.g b).n a).setAt (g := ab) rfl (s.g a).n b).drew
  have hT2 := ((hT.set (p := ⟨ab, (s.g b).n, none⟩) (.inr rfl) (.int .i64 a)).set (p := ⟨ab, (s.g a).n, none⟩) (.inr rfl) (.int .i64 b)).drew
  have n1 : ab ≠ qb := fun e => hQ.aq (by simp [Value.ownBlock, e])
  have n2 : ab ≠ g := fun e => hQ.va' (g := g) rfl (by simp [Value.ownBlock, e])
  clear hQ hT
  go_wp2_with fail
  clear h1 h2
  go_region
  go_end0
  exact ⟨⟨_, rfl⟩, hQ2, hT2⟩
end
end Go.Proofs.Ybulkcmtm
