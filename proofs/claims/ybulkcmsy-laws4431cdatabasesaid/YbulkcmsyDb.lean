/- The entry of the database: newHead, its counts, index.all with no table. -/
import Derived.Test.YbulkcmsyTen
import Derived.Laws.LoneSync
namespace Go.Proofs.Ybulkcmsy
open Go.RowKit Go.Shelf
attribute [local go_sem] Oper.semAt_some

theorem run_call_loadp {P : Program} {f : FuncId} {fn : Func} (hf : P.funcs[f]? = some fn) (hname : (fn.name == "runtime.NumGoroutine") = false) (hb : fn.body.isNone = true) (hn : Extern.findNext fn = none)
    (he : Extern.find fn = some (Extern.Atomic.loadT .ptr)) {a : Addr} {p : Option Addr} {w : World} (hc : w.cell? a = some (.pointer p)) :
    (callFunc f #[.pointer (some a)]).run P w = .ok (.value (.pointer p)) w := by
  rw [run_callFunc_extern hf hname hb hn he]
  change (Sem.run P (do Extern.Atomic.read .ptr (← asAddr (.pointer (some a)))) w).andThen _ = _
  simp [Extern.Atomic.read, asAddr, hc, Result.andThen]

theorem load24 (br : Nat) (w : World) (h : w.cell? ⟨br, 0, none⟩ = some (.pointer none)) : (callFunc 24 #[.pointer (some ⟨br, 0, none⟩)]).run Yba.prog w = .ok (.value (.pointer none)) w :=
  run_call_loadp (fn := Yba.f24) Yba.func24 (by kernel_rfl) (by kernel_rfl) (by kernel_rfl) (by kernel_rfl) h

theorem conv89 (w : World) : (convert 91 89 (.pointer none)).run Yba.prog w = .ok (.pointer none) w := by kernel_rfl

set_option maxRecDepth 100000 in
theorem load15 (br : Nat) (w : World) (h : w.cell? ⟨br, 0, none⟩ = some (.pointer none)) :
    Calls Yba.prog 15 #[.pointer (some ⟨br, 0, none⟩)] w fun e w' => e = .returned (.pointer none) ∧ w' = w := by
  have h24 := load24 br w h
  have hcv := conv89
  go_enter Yba.func15, Yba.ntmps15
  go_wp2
  go_ret
  exact ⟨rfl, rfl⟩

/-- index.all with no table: it yields nothing. -/
theorem all12 (br : Nat) (y : Value) (w : World) (h : w.cell? ⟨br, 0, none⟩ = some (.pointer none)) :
    Calls Yba.prog 12 #[.pointer (some ⟨br, 0, none⟩), y] w fun e w' => (∃ v, e = .returned v) ∧ w' = w := by
  go_enter Yba.func12, Yba.ntmps12
  go_wp2_with (go_at_call 15; refine (load15 br w h).mono ?_; rintro e w' ⟨rfl, rfl⟩)
  refine bodyPost_ret (results_none rfl _ _ _) rfl ?_
  exact ⟨⟨_, rfl⟩, rfl⟩

/-- THE DATABASE's ENTRY AS newHead LAYS IT: db: its block; mo: its 'more'; br: its branch; ct: how many locks of each mode are counted. -/
structure DbAt (w : World) (db mo br m : Nat) (v : Int) : Prop where
  par : w.cell? ⟨db, 7, none⟩ = some (.pointer none)
  more : w.cell? ⟨db, 8, none⟩ = some (.pointer (some ⟨mo, 0, none⟩))
  waits : w.cell? ⟨mo, 3, none⟩ = some (.pointer none)
  branch : w.cell? ⟨mo, 5, none⟩ = some (.pointer (some ⟨br, 0, none⟩))
  key : w.cell? ⟨mo, 6, none⟩ = some (.pointer none)
  attrs : w.cell? ⟨mo, 7, none⟩ = some (.slice none 0 0)
  table : w.cell? ⟨br, 0, none⟩ = some (.pointer none)
  count : ∀ k, 1 ≤ k → k < 7 → w.cell? ⟨br, 109 + k, none⟩ = some (.int .i32 (if k = m then v else 0))

theorem counts19 {db mo br m : Nat} {v : Int} {w : World} (h : DbAt w db mo br m v) :
    Calls Yba.prog 19 #[.pointer (some ⟨db, 0, none⟩)] w fun e w' => e = .returned (.pointer (some ⟨br, 109, none⟩)) ∧ w' = w := by
  have h1 := h.par
  have h2 := h.more
  have h3 := h.branch
  have h4 := World.block_lt_of_cell? w _ h.table
  go_enter Yba.func19, Yba.ntmps19
  go_wp2
  go_ret
  exact ⟨rfl, rfl⟩

theorem wait17 {db mo br m : Nat} {v : Int} {w : World} (h : DbAt w db mo br m v) :
    Calls Yba.prog 17 #[.pointer (some ⟨db, 0, none⟩)] w fun e w' => e = .returned (.bool false) ∧ w' = w := by
  have h2 := h.more
  have h3 := h.waits
  go_enter Yba.func17, Yba.ntmps17
  go_wp2
  go_ret
  exact ⟨rfl, rfl⟩

theorem has27 (k : Nat) (h1 : 1 ≤ k) (h7 : k < 7) (w : World) :
    Calls Yba.prog 27 #[.int .u8 126, .int .u8 k] w fun e w' => e = .returned (.bool true) ∧ w' = w := by
  rcases (by omega : k = 1 ∨ k = 2 ∨ k = 3 ∨ k = 4 ∨ k = 5 ∨ k = 6) with rfl | rfl | rfl | rfl | rfl | rfl
  all_goals
    go_enter Yba.func27, Yba.ntmps27
    go_wp2
    go_ret
    exact ⟨rfl, rfl⟩

set_option maxHeartbeats 800000 in
/-- (*modeCount).in at all six modes: the one that is counted. -/
theorem in20 {db mo br m : Nat} {v : Int} {w : World} (h : DbAt w db mo br m v) (hm1 : 1 ≤ m) (hm7 : m < 7) (hv0 : 0 ≤ v) (hv1 : v ≤ 1000) :
    Calls Yba.prog 20 #[.pointer (some ⟨br, 109, none⟩), .int .u8 126] w fun e w' => e = .returned (.int .i32 v) ∧ w' = w := by
  go_enter Yba.func20, Yba.ntmps20
  go_wp2_with fail
  go_loopw [5, 6] (fun s i wr => ∃ k : Nat, 1 ≤ k ∧ k ≤ 7 ∧ i = .int .u8 k ∧ s = .int .i32 (if m < k then v else 0) ∧ wr = w) (fun _ i _ => 7 - (intOf i).toNat)
  case atStart => exact ⟨1, by omega, by omega, rfl, by rw [if_neg (by omega)], rfl⟩
  case round =>
    obtain ⟨k, hk1, hk7, rfl, rfl, rfl⟩ := hrel
    by_cases hlt : k < 7
    · have hc := h.count k hk1 hlt
      have i0 : (0 : Int) ≤ (k : Int) := by omega
      have i1 : (k : Int) < 7 := by omega
      have hsum : (if m < k then v else 0) + (if k = m then v else 0) = if m < k + 1 then v else 0 := by
        by_cases h1 : m < k
        · rw [if_pos h1, if_neg (by omega), if_pos (by omega)]; omega
        · by_cases h2 : k = m
          · rw [if_neg h1, if_pos h2, if_pos (by omega)]; omega
          · rw [if_neg h1, if_neg h2, if_neg (by omega)]; omega
      generalize (if m < k then v else 0) = s0 at hsum ⊢
      generalize (if k = m then v else 0) = s1 at hsum hc
      have hs2 : 0 ≤ s0 + s1 ∧ s0 + s1 ≤ 1000 := by rw [hsum]; split <;> omega
      go_wp2_with (go_at_call 27; refine (has27 k hk1 hlt _).mono ?_; rintro e w' ⟨rfl, rfl⟩)
      exact ⟨⟨k + 1, by omega, by omega, by go_num, rfl, trivial⟩, by simp [intOf]; omega⟩
    · obtain rfl : k = 7 := by omega
      rw [if_pos (by omega)]
      go_wp2
      go_ret
      exact ⟨rfl, rfl⟩

set_option maxHeartbeats 800000 in
theorem idle13_db {db mo br m : Nat} {v : Int} {w : World} (h : DbAt w db mo br m v) (hm1 : 1 ≤ m) (hm7 : m < 7) (hv0 : 0 < v) (hv1 : v ≤ 1000) :
    Calls Yba.prog 13 #[.pointer (some ⟨db, 0, none⟩)] w fun e w' => e = .returned (.bool false) ∧ w' = w := by
  have hne : ¬ v = 0 := by omega
  go_enter Yba.func13, Yba.ntmps13
  go_wp2_with (first
    | (go_at_call 17; refine (wait17 h).mono ?_; rintro e w' ⟨rfl, rfl⟩)
    | (go_at_call 19; refine (counts19 h).mono ?_; rintro e w' ⟨rfl, rfl⟩)
    | (go_at_call 20; refine (in20 h hm1 hm7 (by omega) hv1).mono ?_; rintro e w' ⟨rfl, rfl⟩))
  go_ret
  exact ⟨rfl, rfl⟩

theorem DbAt.below {db mo br m : Nat} {v : Int} {w w' : World} (h : DbAt w db mo br m v) (hb : Below w.heap.size w w') : DbAt w' db mo br m v := by
  have l1 := World.block_lt_of_cell? w _ h.par
  have l2 := World.block_lt_of_cell? w _ h.waits
  have l3 := World.block_lt_of_cell? w _ h.table
  exact ⟨(hb.cell (p := ⟨db, 7, none⟩) l1).trans h.par, (hb.cell (p := ⟨db, 8, none⟩) l1).trans h.more, (hb.cell (p := ⟨mo, 3, none⟩) l2).trans h.waits, (hb.cell (p := ⟨mo, 5, none⟩) l2).trans h.branch,
    (hb.cell (p := ⟨mo, 6, none⟩) l2).trans h.key, (hb.cell (p := ⟨mo, 7, none⟩) l2).trans h.attrs, (hb.cell (p := ⟨br, 0, none⟩) l3).trans h.table, fun k h1 h7 => (hb.cell (p := ⟨br, 109 + k, none⟩) l3).trans (h.count k h1 h7)⟩

theorem idle11_db {db mo br m : Nat} {v : Int} {w : World} (M : Nat) (h : DbAt w db mo br m v) (hm1 : 1 ≤ m) (hm7 : m < 7) (hv0 : 0 < v) (hv1 : v ≤ 1000) :
    Calls Yba.prog 11 #[.pointer (some ⟨M, 0, none⟩), .pointer (some ⟨db, 0, none⟩)] w fun e w' => e = .returned (.bool false) ∧ Below w.heap.size w w' := by
  have hnot : ∀ (x : Bool) (w : World), (Op.unary .not (.bool x)).run Yba.prog w = .ok (.bool (!x)) w := fun _ _ => rfl
  go_enter Yba.func11, Yba.ntmps11
  go_wp2_with (go_at_call 13; refine (idle13_db (h.below ((Below.refl _ w).alloc (Nat.le_refl _) _)) hm1 hm7 hv0 hv1).mono ?_; rintro e w' ⟨rfl, rfl⟩)
  exact bodyPost_ret (v := .bool false) (by simp [results, Yba.results11, go_sem]) rfl ⟨rfl, (Below.refl _ w).alloc (Nat.le_refl _) _⟩

set_option maxHeartbeats 1600000 in
theorem ten_db {w0 : World} {l : Nat} {J Jx : List Nat → World → Prop} (hB : Body w0 l J Jx) (pre : List Nat) {db mo br m : Nat} {v : Int} (M mb yb : Nat) (W : World) (hJ : J pre W) (hH : DbAt w0 db mo br m v) (hm1 : 1 ≤ m) (hm7 : m < 7) (hv0 : 0 < v) (hv1 : v ≤ 1000)
    (hm : W.heap[mb]? = some (.cells #[.pointer (some ⟨M, 0, none⟩)] 46 (0, 0))) (hy : W.heap[yb]? = some (.cells #[.func (.yield l) #[] #[]] 106 (0, 0))) :
    CallsIn Fence.wide 0 Yba.prog 10 #[.pointer (some ⟨db, 0, none⟩), .pointer (some ⟨mb, 0, none⟩), .pointer (some ⟨yb, 0, none⟩)] W fun e W' =>
      Kept w0.heap.size W W' ∧ ((e = .returned (.bool true) ∧ J (pre ++ [db]) W') ∨ (e = .returned (.bool false) ∧ Jx (pre ++ [db]) W')) := by
  have hmc := cell_of_cells hm
  have hyc := cell_of_cells hy
  have ly := World.block_lt_of_cell? W _ hyc
  have hH1 := hH.below (hB.mem pre W hJ)
  have wf := wide_fn
  have wd := wide_depth
  clear hm hy
  refine callsIn_of_wp Yba.func10 rfl trivial ?_
  simp only [Yba.ntmps10, List.size_toArray, List.length_cons, List.length_nil, Nat.reduceAdd, Nat.reduceSub, Array.replicate_succ, Array.replicate_zero, List.push_toArray, List.append_toArray, List.nil_append, List.cons_append]
  gi_wp2_with (gi_at_call 11; refine (callsIn_wide.2 (idle11_db M hH1 hm1 hm7 hv0 hv1)).mono ?_; rintro e W1 ⟨rfl, hb1⟩; have hyc1 := (hb1.cell (p := ⟨yb, 0, none⟩) ly).trans hyc; obtain ⟨fn, tmps, assign, body, hyr, hR⟩ := hB.round pre db W1 (hB.fresh pre W W1 hJ hb1); clear hyc)
  refine hR.mono ?_
  rintro e W2 ⟨hk, (⟨rfl, hJ2⟩ | ⟨rfl, hJ2⟩)⟩
  · gi_wp2
    go_ret
    exact ⟨(Kept.of_below hb1).trans hk, .inl ⟨rfl, hJ2⟩⟩
  · gi_wp2
    go_ret
    exact ⟨(Kept.of_below hb1).trans hk, .inr ⟨rfl, hJ2⟩⟩
end Go.Proofs.Ybulkcmsy
