/- (*Manager).holders and what it comes to, AT AN ENTRY BELOW A TABLE WHOSE LOCK IN PLACE IS FREE: it yields nothing. -/
import Derived.Test.YbulkcmsyIdle
import Derived.Test.YbulkcmsySilent
import Derived.Deep.QuietTactic
import Derived.BigQuiet
import Derived.Shelf.Abstract
import Derived.Shelf.RegionOpen
import Derived.TacticsInMore
import Derived.LoopNIn
import Derived.LoopIn
namespace Go.Proofs.Ybulkcmsy
open Go.RowKit Go.Shelf
attribute [local go_sem] Oper.semAt_some

theorem below_drewN {B : Nat} {a w : World} (h : Below B a w) (m : Nat) : Below B a (w.drewN m) := ⟨h.os, h.tape, h.output, h.size, h.block⟩

theorem wide_fn (f : FuncId) : Fence.wide.fn f := trivial
theorem wide_depth : Fence.wide.depth = none := rfl

theorem reg25 (x p q : Nat) (w : World) (h7 : w.cell? ⟨x, 7, none⟩ = some (.pointer (some ⟨p, 0, none⟩))) (hp : w.cell? ⟨p, 7, none⟩ = some (.pointer (some ⟨q, 0, none⟩))) :
    Calls Yba.prog 25 #[.pointer (some ⟨x, 0, none⟩)] w fun e w' => e = .returned (.bool false) ∧ w' = w := by
  go_enter Yba.func25, Yba.ntmps25
  go_wp2
  go_ret
  exact ⟨rfl, rfl⟩

theorem hmf : ∀ (fn : Fn) (first cap : Array Value) (w : World), (Instr.makeFunc fn first cap).run Yba.prog w = .ok (.func fn first cap) w := fun _ _ _ _ => rfl

/-- (*lockHead).holding: the closure 29 over two new boxes. -/
theorem hold22 (x p q : Nat) (ms : Int) (w : World) (h7 : w.cell? ⟨x, 7, none⟩ = some (.pointer (some ⟨p, 0, none⟩))) (hp : w.cell? ⟨p, 7, none⟩ = some (.pointer (some ⟨q, 0, none⟩))) :
    Calls Yba.prog 22 #[.pointer (some ⟨x, 0, none⟩), .int .u8 ms] w fun e w' => e = .returned (.func (.func 29) #[] #[.pointer (some ⟨w.heap.size, 0, none⟩), .pointer (some ⟨w.heap.size + 1, 0, none⟩)]) ∧
      w' = (w.alloc (.cells #[.pointer (some ⟨x, 0, none⟩)] 24)).alloc (.cells #[.int .u8 ms] 112) := by
  have hm := hmf
  have lx := World.block_lt_of_cell? w _ h7
  have lp := World.block_lt_of_cell? w _ hp
  go_enter Yba.func22, Yba.ntmps22
  go_wp2_with (go_at_call 25; refine (reg25 x p q _ (by go_simp) (by go_simp)).mono ?_; rintro e w' ⟨rfl, rfl⟩)
  go_ret
  exact ⟨rfl, rfl⟩

/-- (*Manager).intents: the closure 30 over two new boxes. -/
theorem int23 (mv : Value) (x : Nat) (ms : Int) (w : World) :
    Calls Yba.prog 23 #[mv, .pointer (some ⟨x, 0, none⟩), .int .u8 ms] w fun e w' => e = .returned (.func (.func 30) #[] #[.pointer (some ⟨w.heap.size, 0, none⟩), .pointer (some ⟨w.heap.size + 1, 0, none⟩)]) ∧
      w' = (w.alloc (.cells #[.pointer (some ⟨x, 0, none⟩)] 24)).alloc (.cells #[.int .u8 ms] 112) := by
  have hm := hmf
  go_enter Yba.func23, Yba.ntmps23
  go_wp2
  go_ret
  exact ⟨rfl, rfl⟩

theorem list26 (x : Nat) (w : World) (mo : Option Nat) (h8 : w.cell? ⟨x, 8, none⟩ = some (.pointer (mo.map fun b => ⟨b, 0, none⟩))) (hb : ∀ b, mo = some b → w.cell? ⟨b, 2, none⟩ = some (.pointer none) ∧ w.cell? ⟨b, 3, none⟩ = some (.pointer none)) :
    Calls Yba.prog 26 #[.pointer (some ⟨x, 0, none⟩)] w fun e w' => e = .returned (.bool false) ∧ w' = w := by
  cases mo with
  | none =>
    simp only [Option.map_none] at h8
    clear hb
    go_enter Yba.func26, Yba.ntmps26
    go_wp2
    go_ret
    exact ⟨rfl, rfl⟩
  | some b =>
    have hb2 := (hb b rfl).1
    clear hb
    simp only [Option.map_some] at h8
    go_enter Yba.func26, Yba.ntmps26
    go_wp2
    go_ret
    exact ⟨rfl, rfl⟩

set_option maxHeartbeats 800000 in
/-- The closure 29, the entry free: it yields nothing. -/
theorem close29 (l x : Nat) (mo : Option Nat) (hb mb : Nat) (w : World) (hH : Head w x none mo) (hx : w.cell? ⟨hb, 0, none⟩ = some (.pointer (some ⟨x, 0, none⟩))) :
    Calls Yba.prog 29 #[.func (.yield l) #[] #[], .pointer (some ⟨hb, 0, none⟩), .pointer (some ⟨mb, 0, none⟩)] w fun e w' => (∃ v, e = .returned v) ∧ Below w.heap.size w w' := by
  have h0 := hH.txn
  go_enter Yba.func29, Yba.ntmps29
  go_wp2_with (go_at_call 26; refine (list26 x _ mo hH.more hH.bare).mono ?_; rintro e w' ⟨rfl, rfl⟩)
  go_quiet (fail)
  go_wp2
  refine bodyPost_ret (results_none rfl _ _ _) rfl ?_
  exact ⟨⟨_, rfl⟩, below_drewN (Below.refl _ _) _⟩

set_option maxHeartbeats 800000 in
theorem close30 (l x : Nat) (mo : Option Nat) (hb mb : Nat) (w : World) (hH : Head w x none mo) (hx : w.cell? ⟨hb, 0, none⟩ = some (.pointer (some ⟨x, 0, none⟩))) (hlt : hb < w.heap.size) :
    Calls Yba.prog 30 #[.func (.yield l) #[] #[], .pointer (some ⟨hb, 0, none⟩), .pointer (some ⟨mb, 0, none⟩)] w fun e w' => (∃ v, e = .returned v) ∧ Below w.heap.size w w' := by
  obtain ⟨p, q, h7, hp⟩ := hH.par
  have lx := World.block_lt_of_cell? w _ h7
  have lp := World.block_lt_of_cell? w _ hp
  go_enter Yba.func30, Yba.ntmps30
  go_wp2
  go_quiet ((go_at_call 25; refine Calls.quiet_of_same (reg25 x p q _ (by go_simp) (by go_simp))))
  go_wp2
  refine bodyPost_ret (results_none rfl _ _ _) rfl ?_
  exact ⟨⟨_, rfl⟩, below_drewN ((Below.refl _ _).alloc (Nat.le_refl _) _) _⟩

theorem Head.below {w w' : World} {x : Nat} {t : Option Addr} {mo : Option Nat} (h : Head w x t mo) (hb : Below w.heap.size w w') : Head w' x t mo := by
  obtain ⟨h0, ⟨p, q, h7, hp⟩, h8, hbr⟩ := h
  have lx := World.block_lt_of_cell? w _ h0
  have lp := World.block_lt_of_cell? w _ hp
  refine ⟨(hb.cell (p := ⟨x, 0, none⟩) lx).trans h0, ⟨p, q, (hb.cell (p := ⟨x, 7, none⟩) lx).trans h7, (hb.cell (p := ⟨p, 7, none⟩) lp).trans hp⟩, (hb.cell (p := ⟨x, 8, none⟩) lx).trans h8, fun b e => ?_⟩
  obtain ⟨h2, h3⟩ := hbr b e
  have lb := World.block_lt_of_cell? w _ h2
  exact ⟨(hb.cell (p := ⟨b, 2, none⟩) lb).trans h2, (hb.cell (p := ⟨b, 3, none⟩) lb).trans h3⟩

set_option maxHeartbeats 1600000 in
/-- The closure 21 of holders, the entry free: it yields nothing. -/
theorem close21 (l x : Nat) (mo : Option Nat) (mv : Value) (ms : Int) (hb sb mb : Nat) (w : World) (hH : Head w x none mo) (hx : w.cell? ⟨hb, 0, none⟩ = some (.pointer (some ⟨x, 0, none⟩)))
    (hs : w.cell? ⟨sb, 0, none⟩ = some (.int .u8 ms)) (hm : w.cell? ⟨mb, 0, none⟩ = some mv) :
    CallsIn Fence.wide 0 Yba.prog 21 #[.func (.yield l) #[] #[], .pointer (some ⟨hb, 0, none⟩), .pointer (some ⟨sb, 0, none⟩), .pointer (some ⟨mb, 0, none⟩)] w fun e w' => (∃ v, e = .returned v) ∧ Below w.heap.size w w' := by
  obtain ⟨p, q, h7, hp⟩ := hH.par
  have lx := World.block_lt_of_cell? w _ h7
  have lp := World.block_lt_of_cell? w _ hp
  have lhb := World.block_lt_of_cell? w _ hx
  have lsb := World.block_lt_of_cell? w _ hs
  have lmb := World.block_lt_of_cell? w _ hm
  have wf := wide_fn
  have wd := wide_depth
  refine callsIn_of_wp_marks Yba.func21 rfl trivial ?_ rfl
  simp only [Yba.ntmps21, List.size_toArray, List.length_cons, List.length_nil, Nat.reduceAdd, Nat.reduceSub, Array.replicate_succ, Array.replicate_zero, List.push_toArray, List.append_toArray, List.nil_append, List.cons_append]
  gi_wp2_with (gi_at_call 22; refine (callsIn_wide.2 (hold22 x p q ms _ (by go_simp) (by go_simp))).mono ?_; rintro e w' ⟨rfl, rfl⟩)
  refine wpIn_rangeFunc_silent rfl (fun h => by cases h) (gf := 29) (fs := #[]) (lb := #[.pointer (some ⟨w.heap.size + 1, 0, none⟩), .pointer (some ⟨w.heap.size + 2, 0, none⟩)]) rfl trivial (enters_of Yba.func29 (by kernel_rfl) rfl) ?seq ?done
  case seq =>
    intro l' W hb'
    have hbw : Below w.heap.size w W := ((((Below.refl _ w).alloc (Nat.le_refl _) _).alloc (by simp) _).alloc (by simp; omega) _).trans (hb'.mono (by simp; omega))
    refine callsIn_wide.2 (close29 l' x mo (w.heap.size + 1) (w.heap.size + 2) W (hH.below hbw) ?_)
    rw [hb'.cell (p := ⟨w.heap.size + 1, 0, none⟩) (by simp)]
    go_simp
  case done =>
    intro D W hD hb' hK
    have hbw : Below w.heap.size w W := ((((Below.refl _ w).alloc (Nat.le_refl _) _).alloc (by simp) _).alloc (by simp; omega) _).trans (hb'.mono (by simp; omega))
    have hDw : w.heap.size ≤ D := by simp at hD; omega
    have hx1 := (hbw.cell (p := ⟨hb, 0, none⟩) lhb).trans hx
    have hs1 := (hbw.cell (p := ⟨sb, 0, none⟩) lsb).trans hs
    have hm1 := (hbw.cell (p := ⟨mb, 0, none⟩) lmb).trans hm
    have hH1 := hH.below hbw
    have hszW := hbw.size
    clear hx hs hm hH h7 hp hb' hD
    gi_wp2_with (gi_at_call 23; refine (callsIn_wide.2 (int23 mv x ms _)).mono ?_; rintro e w' ⟨rfl, rfl⟩)
    refine wpIn_rangeFunc_silent rfl (fun h => by cases h) (gf := 30) (fs := #[]) (lb := #[.pointer (some ⟨W.heap.size, 0, none⟩), .pointer (some ⟨W.heap.size + 1, 0, none⟩)]) rfl trivial (enters_of Yba.func30 (by kernel_rfl) rfl) ?seq2 ?done2
    case seq2 =>
      intro l' W2 hb2
      have hb2w : Below W.heap.size W W2 := (((Below.refl _ W).alloc (Nat.le_refl _) _).alloc (by simp) _).trans (hb2.mono (by simp; omega))
      refine callsIn_wide.2 (close30 l' x mo W.heap.size (W.heap.size + 1) W2 (hH1.below hb2w) ?_ ?_)
      · rw [hb2.cell (p := ⟨W.heap.size, 0, none⟩) (by simp; omega)]
        go_simp
      · have := hb2.size; simp at this; omega
    case done2 =>
      intro D2 W2 hD2 hb2 hK2
      have hb2w : Below W.heap.size W W2 := (((Below.refl _ W).alloc (Nat.le_refl _) _).alloc (by simp) _).trans (hb2.mono (by simp; omega))
      have lD := (Array.getElem?_eq_some_iff.1 hK).1
      have hK1 : W2.heap[D]? = some (.deferred (some [])) := (hb2w.block _ lD).trans hK
      gi_wp2
      have hD2' : W.heap.size ≤ D2 := by simp at hD2; omega
      refine ⟨by simp, .inl ⟨_, _, rfl, run_takeDeferred hK2, ?_⟩⟩
      refine ⟨by simp, .inl ⟨_, _, rfl, run_takeDeferred ((World.putObj_heap_other (by omega)).trans hK1), ?_⟩⟩
      refine ⟨_, results_none rfl _ _ _, ⟨_, rfl⟩, ?_⟩
      exact below_putObj (below_putObj (hbw.trans (hb2w.mono hszW)) (by omega) _) hDw _

theorem hold14 (x M : Nat) (ms : Int) (w : World) :
    Calls Yba.prog 14 #[.pointer (some ⟨M, 0, none⟩), .pointer (some ⟨x, 0, none⟩), .int .u8 ms] w fun e w' =>
      e = .returned (.func (.func 21) #[] #[.pointer (some ⟨w.heap.size + 1, 0, none⟩), .pointer (some ⟨w.heap.size + 2, 0, none⟩), .pointer (some ⟨w.heap.size, 0, none⟩)]) ∧
      w' = ((w.alloc (.cells #[.pointer (some ⟨M, 0, none⟩)] 46)).alloc (.cells #[.pointer (some ⟨x, 0, none⟩)] 24)).alloc (.cells #[.int .u8 ms] 112) := by
  have hm := hmf
  go_enter Yba.func14, Yba.ntmps14
  go_wp2
  go_ret
  exact ⟨rfl, rfl⟩

set_option maxHeartbeats 1600000 in
/-- (*Manager).idle, the entry busy: false. -/
theorem idle11_busy (x M : Nat) (t : Addr) (mo : Option Nat) (w : World) (hH : Head w x (some t) mo) :
    Calls Yba.prog 11 #[.pointer (some ⟨M, 0, none⟩), .pointer (some ⟨x, 0, none⟩)] w fun e w' => e = .returned (.bool false) ∧ Below w.heap.size w w' := by
  have hnot : ∀ (x : Bool) (w : World), (Op.unary .not (.bool x)).run Yba.prog w = .ok (.bool (!x)) w := fun _ _ => rfl
  go_enter Yba.func11, Yba.ntmps11
  go_wp2_with (go_at_call 13; refine (idle13 (hH.below ((Below.refl _ w).alloc (Nat.le_refl _) _))).mono ?_; rintro e w' ⟨rfl, rfl⟩)
  exact bodyPost_ret (v := .bool false) (by simp [results, Yba.results11, go_sem]) rfl ⟨rfl, (Below.refl _ w).alloc (Nat.le_refl _) _⟩

set_option maxHeartbeats 1600000 in
/-- (*Manager).idle, the entry free: true. -/
theorem idle11_free (x M : Nat) (mo : Option Nat) (w : World) (hH : Head w x none mo) :
    CallsIn Fence.wide 0 Yba.prog 11 #[.pointer (some ⟨M, 0, none⟩), .pointer (some ⟨x, 0, none⟩)] w fun e w' => e = .returned (.bool true) ∧ Below w.heap.size w w' := by
  have hnot : ∀ (x : Bool) (w : World), (Op.unary .not (.bool x)).run Yba.prog w = .ok (.bool (!x)) w := fun _ _ => rfl
  have wf := wide_fn
  have wd := wide_depth
  refine callsIn_of_wp_marks Yba.func11 rfl trivial ?_ rfl
  simp only [Yba.ntmps11, List.size_toArray, List.length_cons, List.length_nil, Nat.reduceAdd, Nat.reduceSub, Array.replicate_succ, Array.replicate_zero, List.push_toArray, List.append_toArray, List.nil_append, List.cons_append]
  gi_wp2_with (first | (gi_at_call 13; refine (callsIn_wide.2 (idle13 (hH.below ((Below.refl _ w).alloc (Nat.le_refl _) _)))).mono ?_; rintro e w' ⟨rfl, rfl⟩) | (gi_at_call 14; refine (callsIn_wide.2 (hold14 x M 126 _)).mono ?_; rintro e w' ⟨rfl, rfl⟩))
  have hbw0 : Below w.heap.size w ((((w.alloc (.cells #[.bool false] 4)).alloc (.cells #[.pointer (some ⟨M, 0, none⟩)] 46)).alloc (.cells #[.pointer (some ⟨x, 0, none⟩)] 24)).alloc (.cells #[.int .u8 126] 112)) :=
    ((((Below.refl _ w).alloc (Nat.le_refl _) _).alloc (by simp) _).alloc (by simp; omega) _).alloc (by simp; omega) _
  refine wpIn_rangeFunc_silent rfl (fun h => by cases h) (gf := 21) (fs := #[]) (lb := #[.pointer (some ⟨w.heap.size + 1 + 1, 0, none⟩), .pointer (some ⟨w.heap.size + 1 + 2, 0, none⟩), .pointer (some ⟨w.heap.size + 1, 0, none⟩)]) rfl trivial (enters_of Yba.func21 (by kernel_rfl) rfl) ?seq ?done
  case seq =>
    intro l' W hb'
    have hbw : Below w.heap.size w W := hbw0.trans (hb'.mono (by simp; omega))
    refine close21 l' x mo (.pointer (some ⟨M, 0, none⟩)) 126 (w.heap.size + 1 + 1) (w.heap.size + 1 + 2) (w.heap.size + 1) W (hH.below hbw) ?_ ?_ ?_
    · rw [hb'.cell (p := ⟨w.heap.size + 1 + 1, 0, none⟩) (by simp)]
      go_simp
    · rw [hb'.cell (p := ⟨w.heap.size + 1 + 2, 0, none⟩) (by simp)]
      go_simp
    · rw [hb'.cell (p := ⟨w.heap.size + 1, 0, none⟩) (by simp)]
      go_simp
  case done =>
    intro D W hD hb' hK
    have hbw : Below w.heap.size w W := hbw0.trans (hb'.mono (by simp; omega))
    have hDw : w.heap.size + 4 ≤ D := by simp at hD; omega
    have hc : W.cell? ⟨w.heap.size, 0, none⟩ = some (.bool false) := by
      rw [hb'.cell (p := ⟨w.heap.size, 0, none⟩) (by simp; omega)]
      go_simp
    have hf : W.frozen? ⟨w.heap.size, 0, none⟩ = false := by
      rw [hb'.frozen (p := ⟨w.heap.size, 0, none⟩) (by simp; omega)]
      go_simp
    clear hb' hD hbw0
    gi_wp2
    have hK' : (W.setCell ⟨w.heap.size, 0, none⟩ (.bool true)).heap[D]? = some (.deferred (some [])) := (Below.heap_setCell _ _ _ _ (show D ≠ w.heap.size by omega)).trans hK
    refine ⟨by simp, .inl ⟨_, _, rfl, run_takeDeferred hK', ?_⟩⟩
    have hcell : ((W.setCell ⟨w.heap.size, 0, none⟩ (.bool true)).putObj D (.deferred none)).cell? ⟨w.heap.size, 0, none⟩ = some (.bool true) := by
      rw [World.cell?_of_block (w := W.setCell ⟨w.heap.size, 0, none⟩ (.bool true)) (World.putObj_heap_other (show w.heap.size ≠ D by omega))]
      exact World.cell?_setCell_same' _ _ _ (by rw [hc]; rfl)
    refine ⟨.bool true, by simp [results, Yba.results11, go_sem, hcell], rfl, ?_⟩
    exact below_putObj (hbw.setCell (p := ⟨w.heap.size, 0, none⟩) (Nat.le_refl _) _) (by omega) _
end Go.Proofs.Ybulkcmsy
