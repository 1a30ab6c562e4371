/- (*ranked).Push, (*ranked).Pop. -/
import Derived.Test.YbulkcmtmDown
import Derived.Deep.RegionLaw
import Derived.Deep.DrawnRows
namespace Go.Proofs.Ybulkcmtm
open Go.RowKit

theorem info72 : (Yba.prog.info? 72).map (fun i => (i.zero, i.size, i.bytes)) = some (some (.agg #[.int .i64 0, .int .i64 0, .int .i64 0]), 3, 24) := by kernel_rfl

theorem ta72 (v : Value) (w : World) : (Instr.typeAssert (.iface 72 v) 20 72 false).run Yba.prog w = .ok v w := by kernel_rfl

/-- Of the queue's own block just the one cell has turned. -/
def qset (w w' : World) (qb qo : Nat) (v' : Value) : Prop := ∀ c, w.heap[qb]? = some (.cells c 68 (0, 0)) → w'.heap[qb]? = some (.cells (c.setIfInBounds qo v') 68 (0, 0))

theorem qset_of {w w1 : World} {qb qo : Nat} {v' : Value} (h : w1.heap[qb]? = w.heap[qb]?) : qset w (w1.setCell ⟨qb, qo, none⟩ v') qb qo v' := by
  intro c hc
  show (w1.heap.modify qb _)[qb]? = _
  rw [Array.getElem?_modify, if_pos rfl, h, hc]
  simp

theorem qset_keep {w w1 w2 : World} {qb qo : Nat} {v' : Value} (h : qset w w1 qb qo v') (hk : w2.heap[qb]? = w1.heap[qb]?) : qset w w2 qb qo v' := fun c hc => hk.trans (h c hc)

section
variable {base qb qo tb ao : Nat} {v va : Value}

/-- Behind 'q.items = append(q.items, x)'. -/
theorem QS.appended {s : Qu} {W W' : World} {g cT : Nat} {x : Held} (h : QS W base qb qo tb ao v va s) (hg : W.grownBy W' v.ownBlock)
    (ho : W'.ownsRow base 72 3 (.slice (some ⟨g, 0, none⟩) (s.it.length + 1) cT) (s.it.length + 1) (flat s.it ++ [.int .i64 (x.n : Int), .int .i64 x.p, .int .i64 x.q])) :
    QS (W'.setCell ⟨qb, qo, none⟩ (.slice (some ⟨g, 0, none⟩) (s.it.length + 1) cT)) base qb qo tb ao (.slice (some ⟨g, 0, none⟩) (s.it.length + 1) cT) va ⟨s.it ++ [x], s.at_⟩ := by
  obtain ⟨c, hc⟩ := h.tq
  obtain ⟨c', hc'⟩ := h.tt
  have eq : W'.heap[qb]? = some (.cells c 68 (0, 0)) := (hg.block qb (Array.getElem?_eq_some_iff.1 hc).1 (fun e => h.vq e.symm)).trans hc
  have et : W'.heap[tb]? = some (.cells c' 61 (0, 0)) := (hg.block tb (Array.getElem?_eq_some_iff.1 hc').1 (fun e => h.vt e.symm)).trans hc'
  have hqt := h.qt
  have ats : W'.ownsRow base 3 1 va s.at_.length (ints s.at_) := h.ats.kept hg (by
    rcases hv : va.ownBlock with _ | k
    · exact .inl rfl
    · exact .inr fun e => h.va' e.symm hv)
  have c0 : W'.cell? ⟨qb, qo, none⟩ = some v := by rw [World.cell?_of_block (w := W) (a := ⟨qb, qo, none⟩) (eq.trans hc.symm)]; exact h.it
  have c1 : W'.cell? ⟨qb, qo + 1, none⟩ = some (.pointer (some ⟨tb, ao, none⟩)) := by rw [World.cell?_of_block (w := W) (a := ⟨qb, qo + 1, none⟩) (eq.trans hc.symm)]; exact h.atp
  have c2 : W'.cell? ⟨tb, ao, none⟩ = some va := by rw [World.cell?_of_block (w := W) (a := ⟨tb, ao, none⟩) (et.trans hc'.symm)]; exact h.sl
  refine ⟨World.cell?_setCell_same' _ _ _ (by rw [c0]; rfl), ?_, ?_, ?_, own_other ats (own_ne ats eq (by decide)) _, ?_, ⟨c', (Below.heap_setCell _ _ _ _ (fun e => hqt e.symm)).trans et⟩⟩
  · rw [World.cell?_setCell_other _ _ _ _ (by simp)]; exact c1
  · rw [World.cell?_setCell_other _ _ _ _ (by simp)]; exact c2
  · have := own_other (u := .slice (some ⟨g, 0, none⟩) (s.it.length + 1) cT) ho (own_ne ho eq (by decide)) qo
    simp only [List.length_append, List.length_cons, List.length_nil, flat_append]
    simpa [flat] using this
  · refine ⟨c.setIfInBounds qo (.slice (some ⟨g, 0, none⟩) (s.it.length + 1) cT), ?_⟩
    show (W'.heap.modify qb _)[qb]? = _
    rw [Array.getElem?_modify, if_pos rfl, eq]
    simp

set_option maxHeartbeats 4000000 in
set_option maxRecDepth 100000 in
theorem push50 {s : Qu} (w : World) (h : QS w base qb qo tb ao v va s) (x : Held) (hx : x.n < s.at_.length) (hm : s.it.length ≤ 100000) (hbase : base ≤ w.heap.size) :
    Calls Yba.prog 50 #[.pointer (some ⟨qb, qo, none⟩), .iface 72 (.agg #[.int .i64 (x.n : Int), .int .i64 x.p, .int .i64 x.q])] w fun e w' => (∃ v, e = .returned v) ∧
      ∃ v', QS w' base qb qo tb ao v' va (s.push x) ∧ Touch (fun k => qblocks v va k ∨ k = qb) w w' ∧ (v'.ownBlock = v.ownBlock ∨ ∃ g, v'.ownBlock = some g ∧ w.heap.size ≤ g) ∧ qset w w' qb qo v' := by
  obtain ⟨i72, hi, hz1, hz2, hz3⟩ := info_parts info72
  obtain ⟨ab, cm, rfl⟩ := h.aform (by omega)
  obtain ⟨a, cap, rfl⟩ : ∃ a cap, v = .slice a s.it.length cap := by
    rcases h.own.2 with ⟨hv, h0⟩ | ⟨_, _, _, hv, _⟩
    · exact ⟨none, 0, by rw [hv, h0]⟩
    · exact ⟨_, _, hv⟩
  have h0 := h.it
  have h1 := h.atp
  have h2 := h.sl
  have fz := own_frozen h.ats (g := ab) rfl
  have i4 : (0 : Int) ≤ (x.n : Int) := by omega
  have i5 : (x.n : Int) < (s.at_.length : Int) := by omega
  obtain ⟨old, hold⟩ : ∃ old, s.at_[x.n]? = some old := ⟨_, List.getElem?_eq_getElem hx⟩
  have c1 : w.cell? ⟨ab, x.n, none⟩ = some (.int .i64 old) := h.place (g := ab) rfl hold
  have lw := World.block_lt_of_cell? w _ c1
  have lq := World.block_lt_of_cell? w _ h0
  have lt := World.block_lt_of_cell? w _ h2
  have hta := ta72
  go_enter Yba.func50, Yba.ntmps50
  go_wp2_with fail
  go_region
  have hT1 : Touch (fun k => qblocks (.slice a s.it.length cap) (.slice (some ⟨ab, 0, none⟩) s.at_.length cm) k ∨ k = qb) w ((w.setCell ⟨ab, x.n, none⟩ (.int .i64 (s.it.length : Int))).alloc (.cells #[.int .i64 (x.n : Int), .int .i64 x.p, .int .i64 x.q] 72)).drew :=
    (((Touch.refl _ w).set (p := ⟨ab, x.n, none⟩) (.inl (.inr rfl)) _).trans (Touch.below ((Below.refl _ _).alloc (Nat.le_refl _) _))).drew
  have hQ1 := ((h.setAt (g := ab) rfl x.n (s.it.length : Int)).below ((Below.refl _ _).alloc (Nat.le_refl _) (.cells #[.int .i64 (x.n : Int), .int .i64 x.p, .int .i64 x.q] 72))).drew
  have hB1 : ((w.setCell ⟨ab, x.n, none⟩ (.int .i64 (s.it.length : Int))).alloc (.cells #[.int .i64 (x.n : Int), .int .i64 x.p, .int .i64 x.q] 72)).drew.heap[w.heap.size]? = some (.cells #[.int .i64 (x.n : Int), .int .i64 x.p, .int .i64 x.q] 72 (0, 0)) := by
    have := World.alloc_heap_new (w.setCell ⟨ab, x.n, none⟩ (.int .i64 (s.it.length : Int))) (.cells #[.int .i64 (x.n : Int), .int .i64 x.p, .int .i64 x.q] 72)
    rwa [show (w.setCell ⟨ab, x.n, none⟩ (.int .i64 (s.it.length : Int))).heap.size = w.heap.size by simp] at this
  have hZ1 : ((w.setCell ⟨ab, x.n, none⟩ (.int .i64 (s.it.length : Int))).alloc (.cells #[.int .i64 (x.n : Int), .int .i64 x.p, .int .i64 x.q] 72)).drew.heap.size = w.heap.size + 1 := by simp
  have hK1 : ((w.setCell ⟨ab, x.n, none⟩ (.int .i64 (s.it.length : Int))).alloc (.cells #[.int .i64 (x.n : Int), .int .i64 x.p, .int .i64 x.q] 72)).drew.heap[qb]? = w.heap[qb]? := by
    show ((w.setCell ⟨ab, x.n, none⟩ (.int .i64 (s.it.length : Int))).alloc (.cells #[.int .i64 (x.n : Int), .int .i64 x.p, .int .i64 x.q] 72)).heap[qb]? = _
    rw [Below.heap_alloc _ _ _ (by simpa using lq), Below.heap_setCell _ _ _ _ (fun e => h.aq (by simp [Value.ownBlock, e]))]
  have hvl : ∀ k, (Value.slice a s.it.length cap).ownBlock = some k → k < w.heap.size := fun k e => (h.own.lt k e).2
  generalize World.drew _ = W1 at hT1 hQ1 hB1 hZ1 hK1 ⊢
  clear h h0 h1 h2 fz hold c1 lw lt hta
  have g0 := hQ1.it
  have gf : W1.frozen? ⟨qb, qo, none⟩ = false := by obtain ⟨c, hc⟩ := hQ1.tq; simp [World.frozen?, hc]
  have b0 : W1.cell? ⟨w.heap.size, 0, none⟩ = some (.int .i64 (x.n : Int)) := by simp [World.cell?, hB1]
  have b1 : W1.cell? ⟨w.heap.size, 1, none⟩ = some (.int .i64 x.p) := by simp [World.cell?, hB1]
  have b2 : W1.cell? ⟨w.heap.size, 2, none⟩ = some (.int .i64 x.q) := by simp [World.cell?, hB1]
  have hqv := hQ1.vq
  have lq1 : qb < W1.heap.size := by omega
  have lb1 : base ≤ W1.heap.size := by omega
  have lw1 : w.heap.size < W1.heap.size := by omega
  have HZ : Hid (W1.heap.size = w.heap.size + 1) := hZ1
  have HK : Hid (W1.heap[qb]? = w.heap[qb]?) := hK1
  clear hZ1 hK1
  go_wp2_with fail
  go_region_law
    ((refine step_append_lies _ (by rfl) _ _ _ (by rfl) base 72 i72 _ 3 24 Yba.underlying65 hi hz1 hz2 hz3 rfl (by omega) (.slice a s.it.length cap) s.it.length (flat s.it) (by rfl) ((hQ1.own.alloc _).drew)
        ⟨W1.heap.size, 0, none⟩ 1 1 [.int .i64 (x.n : Int), .int .i64 x.p, .int .i64 x.q] (by rfl) (by rfl) (World.news_of_block (cs := #[.int .i64 (x.n : Int), .int .i64 x.p, .int .i64 x.q]) (t := 72) (fr := (0, 0)) (heap_alloc_new W1 _)) (by simp [Value.oneCell'])
        (by omega) (by unfold maxLen; omega) (by omega) (by simp; omega) (W1.heap.size + 1) (by simp) ?_; intro gT cT w1 hown1 hgrow hat hlt1
      have f1 : w1.cell? ⟨qb, qo, none⟩ = some (.slice a s.it.length cap) := (World.cell?_of_block (a := ⟨qb, qo, none⟩) (hgrow.block qb (by simp; omega) (fun e => hqv e.symm))).trans (by go_simp)
      have f2 : w1.frozen? ⟨qb, qo, none⟩ = false := (World.frozen?_of_block (a := ⟨qb, qo, none⟩) (hgrow.block qb (by simp; omega) (fun e => hqv e.symm))).trans (by go_simp)))
  all_goals
    have hQa := (hQ1.below ((Below.refl _ _).alloc (Nat.le_refl _) (.cells #[.int .i64 (x.n : Int), .int .i64 x.p, .int .i64 x.q] 72))).drew
    have hT2 := ((((hT1.trans (Touch.below ((Below.refl _ _).alloc (Nat.le_refl _) (.cells #[.int .i64 (x.n : Int), .int .i64 x.p, .int .i64 x.q] 72)))).drew).grown hgrow (fun k e => .inl (.inl e))).set (p := ⟨qb, qo, none⟩) (.inr rfl) (.slice (some ⟨gT, 0, none⟩) (s.it.length + 1) cT))
    have hQb := hQa.appended hgrow hown1
    have hZ := HZ.out
    have hKw : w1.heap[qb]? = w.heap[qb]? := (hgrow.block qb (by simp; omega) (fun e => hqv e.symm)).trans ((Below.heap_alloc W1 _ qb lq1).trans HK.out)
    go_end0
    refine ⟨⟨_, rfl⟩, _, hQb, hT2, ?_, qset_of hKw⟩
    rcases hat with e | e
    · exact .inl e.symm
    · exact .inr ⟨gT, rfl, by omega⟩
end
end Go.Proofs.Ybulkcmtm
