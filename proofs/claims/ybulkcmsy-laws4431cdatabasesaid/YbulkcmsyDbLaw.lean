/- THE WALK OF LawS4431CDatabase (function 4). -/
import Derived.Test.YbulkcmsyNew
import Derived.Test.YbulkcmsyMgr
import Derived.Deep.QuietTactic
import Derived.BigQuiet
import Derived.Lib.Builder
import Derived.Deep.DeepCutAuto
import Derived.Deep.RegionLaw
import Derived.Deep.DrawnRows
namespace Go.Proofs.Ybulkcmsy
open Go.RowKit Go.Shelf
attribute [local go_sem] Oper.semAt_some

theorem infoDb24 : (Yba.prog.info? 24).map (fun i => (i.zero, i.size, i.bytes)) = some (some (.pointer none), 1, 8) := by kernel_rfl
theorem infoDb31 : (Yba.prog.info? 31).isSome = true := by kernel_rfl
theorem eql24 (a : Addr) (w : World) : (binOp .eql 24 (.pointer (some a)) (.pointer (some a))).run Yba.prog w = .ok (.bool true) w := by
  cases h : Yba.prog.info? 31 with
  | none => have := infoDb31; rw [h] at this; cases this
  | some j => exact run_eql_ptr_same (P := Yba.prog) (tp := 24) (te := 31) w a (by kernel_rfl) h
attribute [local go_sem] eql24

set_option maxHeartbeats 1600000 in
set_option maxRecDepth 100000 in
theorem db_law (a0 a1 : Int) (w : World) (h00 : 0 ≤ a0) (h01 : a0 ≤ 255) (h10 : 0 ≤ a1) (h11 : a1 ≤ 255) :
    CallsIn Fence.wide 0 Yba.prog 4 #[.int .u8 a0, .int .u8 a1] w fun e w' => e = .returned (.bool true) ∧ Below w.heap.size w w' := by
  obtain ⟨i24, hi24, hz24a, hz24b, hz24c⟩ := info_parts infoDb24
  have hr0 : 0 ≤ a0 % 6 := by omega
  have hr1 : a0 % 6 < 6 := by omega
  refine callsIn_of_wp_marks Yba.func4 rfl trivial ?_ rfl
  simp only [Yba.ntmps4, List.size_toArray, List.length_cons, List.length_nil, Nat.reduceAdd, Nat.reduceSub, Array.replicate_succ, Array.replicate_zero, List.push_toArray, List.append_toArray, List.nil_append, List.cons_append]
  refine wpIn_wide.2 (wp_mono ?_ calm_le)
  go_wp2_with fail
  refine (new7_at w).mono ?_
  rintro e W1 ⟨rfl, hb1, hz1, hhd, hmo, cs, hc0, hck, hbr⟩
  go_upto_region 3 with fail
  have c1 : W1.cell? ⟨w.heap.size + 1, 8, none⟩ = some (.pointer (some ⟨w.heap.size, 0, none⟩)) := by simp [World.cell?, hhd, headNew]
  have c2 : W1.cell? ⟨w.heap.size, 5, none⟩ = some (.pointer (some ⟨w.heap.size + 2, 0, none⟩)) := by simp [World.cell?, hmo, moreNew]
  obtain ⟨m, hm, hm1, hm7⟩ : ∃ m : Nat, a0 % 6 + 1 = (m : Int) ∧ 1 ≤ m ∧ m < 7 := ⟨(a0 % 6 + 1).toNat, by omega, by omega, by omega⟩
  have c3 : W1.cell? ⟨w.heap.size + 2, 109 + m, none⟩ = some (.int .i32 0) := by simp [World.cell?, hbr, hck m hm1 hm7]
  have c4 : W1.frozen? ⟨w.heap.size + 2, 109 + m, none⟩ = false := by simp [World.frozen?, hbr]
  have i0 : (0 : Int) ≤ (m : Int) := by omega
  have i1 : (m : Int) < 7 := by omega
  have Hm : Hid (1 ≤ m) := hm1
  have Hm7 : Hid (m < 7) := hm7
  rw [hm]
  clear hr0 hr1 hm hm1 hm7
  go_upto_region 4 with fail
  obtain ⟨W2, hW2⟩ : ∃ W2, W1.setCell ⟨w.heap.size + 2, 109 + m, none⟩ (.int .i32 (a1 + 1)) = W2 := ⟨_, rfl⟩
  have hb2 : Below w.heap.size w W2 := by rw [← hW2]; exact hb1.setCell (p := ⟨w.heap.size + 2, 109 + m, none⟩) (by simp) _
  have hD : DbAt W2 (w.heap.size + 1) w.heap.size (w.heap.size + 2) m (a1 + 1) := by
    have o1 : W2.heap[w.heap.size + 1]? = some (.cells (headNew w.heap.size) 31 (0, 0)) := by rw [← hW2]; exact (Below.heap_setCell _ _ _ _ (by simp)).trans hhd
    have o2 : W2.heap[w.heap.size]? = some (.cells (moreNew (some ⟨w.heap.size + 2, 0, none⟩)) 45 (0, 0)) := by rw [← hW2]; exact (Below.heap_setCell _ _ _ _ (by simp)).trans hmo
    refine ⟨by simp [World.cell?, o1, headNew], by simp [World.cell?, o1, headNew], by simp [World.cell?, o2, moreNew], by simp [World.cell?, o2, moreNew], by simp [World.cell?, o2, moreNew], by simp [World.cell?, o2, moreNew], ?_, ?_⟩
    · rw [← hW2, World.cell?_setCell_other _ _ _ _ (by simp)]
      simp [World.cell?, hbr, hc0]
    · intro k k1 k7
      rw [← hW2]
      by_cases e : k = m
      · subst e
        rw [if_pos rfl]
        exact World.cell?_setCell_same' _ _ _ (by rw [c3]; rfl)
      · rw [if_neg e, World.cell?_setCell_other _ _ _ _ (by simp)]
        simp [World.cell?, hbr, hck k k1 k7]
  rw [hW2]
  have hz2 : W2.heap.size = w.heap.size + 3 := by rw [← hW2]; simp [hz1]
  clear hW2 c1 c2 c3 c4 hbr hmo hhd hck hc0 hb1 hz1
  obtain ⟨ms, hdb, hbuild⟩ := mgr_made (some ⟨w.heap.size + 1, 0, none⟩)
  go_upto_region 5 with (refine wpList_build_one rfl 78 6 (.tmp 29) rfl (.pointer (some ⟨w.heap.size + 1, 0, none⟩)) rfl ms hbuild ?_)
  obtain ⟨w0, hw0⟩ : ∃ w0, W2.alloc (.cells ms 78) = w0 := ⟨_, rfl⟩
  have hb0 : Below W2.heap.size W2 w0 := by rw [← hw0]; exact (Below.refl _ _).alloc (Nat.le_refl _) _
  have hd0 : w0.cell? ⟨w.heap.size + 3, 2388, none⟩ = some (.pointer (some ⟨w.heap.size + 1, 0, none⟩)) := by
    have h1 : w0.heap[w.heap.size + 3]? = some (.cells ms 78 (0, 0)) := by rw [← hw0, ← hz2]; exact World.alloc_heap_new _ _
    simp [World.cell?, h1, hdb]
  have hs0 : w0.heap.size = w.heap.size + 4 := by rw [← hw0]; simp [hz2]
  have hD0 := hD.below hb0
  have hbw : Below w.heap.size w w0 := hb2.trans (hb0.mono hb2.size)
  rw [hw0]
  clear hbuild hdb hw0 hD hb0 hb2 hz2
  go_wp2_with fail
  refine (busy6 _ _).mono ?_
  rintro e W9 ⟨rfl, rfl⟩
  go_wp2_with fail
  obtain ⟨W9, hW9⟩ : ∃ W9, (w0.alloc (.cells #[.slice none 0 0] 43)).alloc (.cells #[.pointer (some ⟨w.heap.size + 3, 0, none⟩)] 46) = W9 := ⟨_, rfl⟩
  have hb9 : Below w0.heap.size w0 W9 := by rw [← hW9]; exact ((Below.refl _ _).alloc (Nat.le_refl _) _).alloc (by simp) _
  have hg9 : Boxed W9 w0.heap.size 43 (.slice none 0 0) := by rw [← hW9]; exact (Boxed.new w0 43 (.slice none 0 0)).alloc _
  have hm9 : W9.heap[w.heap.size + 5]? = some (.cells #[.pointer (some ⟨w.heap.size + 3, 0, none⟩)] 46 (0, 0)) := by rw [← hW9]; have := World.alloc_heap_new (w0.alloc (.cells #[.slice none 0 0] 43)) (.cells #[.pointer (some ⟨w.heap.size + 3, 0, none⟩)] 46); rwa [World.size_alloc, hs0] at this
  have hz9 : W9.heap.size = w.heap.size + 6 := by rw [← hW9]; simp [hs0]
  rw [hW9]
  refine wp_range_brk (mb := w.heap.size + 5) w0 [w.heap.size + 1] ?geval rfl ?seq (Got w0 5) (got_mine w0 5 (by omega)) (fun q => 4 < q.length) (got_fresh w0 5) (fun _ _ h => h.2.1) ⟨⟨_, hg9, World.ownsRow_nil _ _ _ _⟩, hb9, Nat.zero_le _⟩ 34 9 ?assign ?body ?fin
  case geval => rfl
  case seq =>
    intro l J Jx W hB hJ hbW
    refine it8 _ hB (w.heap.size + 1) (w.heap.size + 3) (w.heap.size + 5) W hJ (by omega) ((hbW.block _ (by omega)).trans hm9) hd0 ?_
    intro yb W1 hJ1 hyb hm1 hy1
    exact heads_db hB _ _ yb hD0 Hm.out Hm7.out (by omega) (by omega) W1 hJ1 (by omega) hyb hm1 hy1
  case assign =>
    intro l x W K hK
    gi_wp2
    exact hK
  case body =>
    rintro l pre x W ⟨⟨v, hv, hrow⟩, hB, hl⟩
    have hc := hv.cell
    rw [hs0] at hc
    obtain ⟨a, c, rfl⟩ : ∃ a c, v = .slice a pre.length c := by
      rcases hrow.2 with ⟨hv, hx⟩ | ⟨g, cp, cur, hv, _⟩
      · exact ⟨none, 0, by rw [hv, hx]⟩
      · exact ⟨_, _, hv⟩
    by_cases heq : 4 < pre.length
    · have hdec : (4 : Int) < (pre.length : Int) := by omega
      gi_wp2
      exact ⟨KeepsOthers.refl _, Kept.refl _ _, rfl, pre, x, rfl, heq, ⟨_, hv, hrow⟩, hB, hl⟩
    · have hdec : ¬ (4 : Int) < (pre.length : Int) := by omega
      gi_wp2_with (gi_at_builtin; refine wpListIn_append_own _ rfl _ _ 43 rfl w0.heap.size 24 i24 (.pointer none) 1 8 Yba.underlying43 hi24 hz24a hz24b hz24c rfl (by decide) _ _ _ rfl (hrow.alloc _) ⟨W.heap.size, 0, none⟩ 1 1 [.pointer (some ⟨x, 0, none⟩)] rfl rfl (cell_one_new _ _ _) (by simp [Value.oneCell']) (by unfold maxLen; omega) (by omega) (by have := hB.size; simp; omega) ?_; intro v' w1 hown' hgrow _; obtain ⟨g', cap', rfl⟩ := ownsRow_succ hown'; obtain ⟨hv1, hv2, hr2, hk2, hb2⟩ := hv.appended (by decide) hrow hB.size (Nat.le_refl _) hown' hgrow; have hc1 := hv1.cell; have hf1 := hv1.frozen; rw [hs0] at hc1 hf1)
      have e9 : w.heap.size + 4 = w0.heap.size := hs0.symm
      rw [e9]
      exact ⟨hk2, kept_appended hrow hgrow, ⟨_, hv2, by simp only [List.map_append, List.map_cons, List.map_nil, List.length_append, List.length_cons, List.length_nil]; exact hr2⟩, hB.trans hb2, by simp; omega⟩
  case fin =>
    intro D W hDD hfin hK
    obtain ⟨⟨v, hv, hrow⟩, hB, _⟩ : Got w0 5 [w.heap.size + 1] W := by
      rcases hfin with h | ⟨q, hq, hl, h⟩
      · exact h
      · have := hq.length_le
        simp at this; omega
    have hc := hv.cell
    rw [hs0] at hc
    obtain ⟨g, c, rfl, _, _⟩ := hrow.form (by simp)
    have hce := hrow.cellAt 0 (by simp)
    have hce' : W.cell? ⟨g, 0, none⟩ = some (.pointer (some ⟨w.heap.size + 1, 0, none⟩)) := hce
    simp only [List.length_cons, List.length_nil, Nat.reduceAdd] at hc
    clear hce
    go_wp2_with fail
    refine ⟨by simp, .inl ⟨_, _, rfl, run_takeDeferred hK, ?_⟩⟩
    exact ⟨_, results_tmp rfl _ _ _, rfl, below_putObj (hbw.trans (hB.mono hbw.size)) (by omega) _⟩
end Go.Proofs.Ybulkcmsy
