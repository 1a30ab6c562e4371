/- 'heads' at the database's entry: it comes itself, and nothing more. -/
import Derived.Test.YbulkcmsyDb
import Derived.Test.YbulkcmsyHeads
import Derived.Test.YbulkcmsyLoop
namespace Go.Proofs.Ybulkcmsy
open Go.RowKit Go.Shelf
attribute [local go_sem] Oper.semAt_some

theorem set_put (W : World) (b D : Nat) (v : Value) (o : Obj) (h : b ≠ D) : (W.setCell ⟨b, 0, none⟩ v).putObj D o = (W.putObj D o).setCell ⟨b, 0, none⟩ v := by
  unfold World.putObj World.setCell
  congr 1
  apply Array.ext_getElem?
  intro i
  simp only [Array.getElem?_setIfInBounds, Array.getElem?_modify, Array.size_modify]
  by_cases e1 : D = i
  · subst e1
    simp [h]
  · simp [e1]

set_option maxHeartbeats 1600000 in
theorem heads_db {w0 : World} {l : Nat} {J Jx : List Nat → World → Prop} (hB : Body w0 l J Jx) {db mo br m : Nat} {v : Int} (M mb yb : Nat) (hR : DbAt w0 db mo br m v) (hm1 : 1 ≤ m) (hm7 : m < 7) (hv0 : 0 < v) (hv1 : v ≤ 1000)
    (W : World) (hJ : J [] W) (hmb : w0.heap.size < mb) (hyb : w0.heap.size < yb)
    (hm : W.heap[mb]? = some (.cells #[.pointer (some ⟨M, 0, none⟩)] 46 (0, 0))) (hy : W.heap[yb]? = some (.cells #[.func (.yield l) #[] #[]] 106 (0, 0))) :
    CallsIn Fence.wide 0 Yba.prog 9 #[.pointer (some ⟨db, 0, none⟩), .func (.func 10) #[] #[.pointer (some ⟨mb, 0, none⟩), .pointer (some ⟨yb, 0, none⟩)]] W fun e W' =>
      (∃ v, e = .returned v) ∧ (J [db] W' ∨ ∃ q x, (q ++ [x]) <+: [db] ∧ Jx (q ++ [x]) W') := by
  have wf := wide_fn
  have wd := wide_depth
  have lmb := (Array.getElem?_eq_some_iff.1 hm).1
  have lyb := (Array.getElem?_eq_some_iff.1 hy).1
  obtain ⟨W0, hW0⟩ : ∃ W0, (W.alloc (.cells #[.func (.func 10) #[] #[.pointer (some ⟨mb, 0, none⟩), .pointer (some ⟨yb, 0, none⟩)]] 106)).alloc (.cells #[.bool false] 4) = W0 := ⟨_, rfl⟩
  have hb0 : Below W.heap.size W W0 := by rw [← hW0]; exact ((Below.refl _ _).alloc (Nat.le_refl _) _).alloc (by simp) _
  have hX0 : Boxes W0 M l mb yb W.heap.size (W.heap.size + 1) := by
    refine ⟨(hb0.block _ lmb).trans hm, (hb0.block _ lyb).trans hy, ?_, ?_⟩
    · rw [← hW0, Below.heap_alloc _ _ _ (by simp)]; exact World.alloc_heap_new _ _
    · rw [← hW0]; have := World.alloc_heap_new (W.alloc (.cells #[.func (.func 10) #[] #[.pointer (some ⟨mb, 0, none⟩), .pointer (some ⟨yb, 0, none⟩)]] 106)) (.cells #[.bool false] 4); rwa [World.size_alloc] at this
  have hJ0 : J [] W0 := hB.fresh _ _ _ hJ hb0
  have hHW : w0.heap.size < W.heap.size := by omega
  obtain ⟨Hb, hHb⟩ : ∃ Hb, W.heap.size = Hb := ⟨_, rfl⟩
  rw [hHb] at hX0 hHW
  have hc0 := cell_of_cells hX0.h
  have hnot : ∀ (x : Bool) (w : World), (Op.unary .not (.bool x)).run Yba.prog w = .ok (.bool (!x)) w := fun _ _ => rfl
  have hmk := hmf
  clear hm hy hJ hb0 lmb lyb
  refine callsIn_of_wp_marks Yba.func9 rfl trivial ?_ rfl
  simp only [Yba.ntmps9, List.size_toArray, List.length_cons, List.length_nil, Nat.reduceAdd, Nat.reduceSub, Array.replicate_succ, Array.replicate_zero, List.push_toArray, List.append_toArray, List.nil_append, List.cons_append]
  gi_wp2_with fail
  refine (ten_db hB [] M mb yb W0 hJ0 hR hm1 hm7 hv0 hv1 hX0.m hX0.y).mono ?_
  rintro e W1 ⟨hk1, (⟨rfl, hJ1⟩ | ⟨rfl, hJ1⟩)⟩
  · have hX1 := hX0.kept hk1 hmb hyb hHW (by omega)
    clear hJ0 hX0 hc0 hk1
    clear hW0 hHb W0 W
    have hD1 := hR.below (hB.mem _ _ hJ1)
    have g1 := hD1.more
    have g2 := hD1.branch
    have lbr := World.block_lt_of_cell? _ _ hD1.table
    have lr := (Array.getElem?_eq_some_iff.1 hX1.r).1
    gi_wp2
    refine wpIn_rangeFunc_silent rfl (fun h => by cases h) (gf := 12) (fs := #[.pointer (some ⟨br, 0, none⟩)]) (lb := #[]) rfl trivial (enters_of Yba.func12 (by kernel_rfl) rfl) ?seq ?done
    case seq =>
      intro l' W2 hb2
      exact callsIn_wide.2 ((all12 br (.func (.yield l') #[] #[]) W2 (hD1.below hb2).table).mono fun e W' h => ⟨h.1, by rw [h.2]; exact Below.refl _ _⟩)
    case done =>
      intro D W2 hD hb2 hK
      have hD2 := hD1.below hb2
      have f1 := hD2.more
      have f2 := hD2.key
      have f3 := hD2.attrs
      have hX2 : W2.heap[Hb + 1]? = some (.cells #[.bool false] 4 (0, 0)) := (hb2.block _ lr).trans hX1.r
      have hrc := cell_of_cells hX2
      have hrf := frozen_of_cells hX2
      have hK3 : (W2.setCell ⟨Hb + 1, 0, none⟩ (.bool true)).heap[D]? = some (.deferred (some [])) := heap_of_setCell hK rfl hX2
      have hJp : J [db] (W2.putObj D (.deferred none)) := hB.fresh _ _ _ hJ1 (below_putObj hb2 hD _)
      have hne : Hb + 1 ≠ D := by omega
      have hJf := hB.cellJ _ _ (Hb + 1) _ _ (.bool true) hJp (by omega) ((World.putObj_heap_other hne).trans hX2)
      rw [← set_put _ _ _ _ _ hne] at hJf
      have hcell : ((W2.setCell ⟨Hb + 1, 0, none⟩ (.bool true)).putObj D (.deferred none)).cell? ⟨Hb + 1, 0, none⟩ = some (.bool true) := by
        have h1 := World.cell?_setCell_same' W2 ⟨Hb + 1, 0, none⟩ (.bool true) (by rw [hrc]; rfl)
        rw [World.cell?_of_block (w := W2.setCell ⟨Hb + 1, 0, none⟩ (.bool true)) (World.putObj_heap_other hne)]
        exact h1
      clear g1 g2
      gi_wp2
      gi_loopw [64] (fun i wr => i = .int .i64 0 ∧ wr = W2) (fun _ _ => 0)
      case atStart => exact ⟨rfl, rfl⟩
      case round =>
        obtain ⟨rfl, rfl⟩ := hrel
        gi_wp2
        refine ⟨by simp, .inl ⟨_, _, rfl, run_takeDeferred hK3, ?_⟩⟩
        exact ⟨.bool true, by simp [results, Yba.results9, go_sem, hcell], ⟨_, rfl⟩, .inl hJf⟩
  · have hX1 := hX0.kept hk1 hmb hyb hHW (by omega)
    clear hJ0 hX0 hc0 hk1
    clear hW0 hHb W0 W
    have hrc := cell_of_cells hX1.r
    have hrf := frozen_of_cells hX1.r
    have hx' := hB.cellX _ _ _ _ _ (.bool false) hJ1 (show w0.heap.size < Hb + 1 by omega) hX1.r
    have hcell := res_cell hX1 (.bool false)
    clear hX1 hJ1
    gi_wp2
    exact ⟨.bool false, by simp [results, Yba.results9, go_sem, hcell], ⟨_, rfl⟩, .inr ⟨[], db, List.prefix_refl _, hx'⟩⟩
end Go.Proofs.Ybulkcmsy
