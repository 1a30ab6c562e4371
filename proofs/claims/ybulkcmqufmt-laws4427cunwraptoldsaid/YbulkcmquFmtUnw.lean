/- THE WALK OF LawS4427CUnwrap (function 6). -/
import Derived.Test.YbulkcmquFmtBuild
import Derived.Test.YbulkcmquFmtInv
import Derived.Test.YbulkcmquFmtMsg
import Derived.Laws.CopyOwn
import Derived.LaidEql
import Derived.Deep.QuietTactic
import Derived.BigQuiet
namespace Go.Proofs.YbulkcmquFmt
open Go.RowKit Go.Extern.Stop Go.Stop Go.Extern

theorem Ybaf.info49 : ∃ i, Ybaf.prog.info? 49 = some i ∧ i.comparable = true := ⟨_, rfl, by kernel_rfl⟩
theorem Ybaf.info51 : ∃ j, Ybaf.prog.info? 51 = some j := ⟨_, rfl⟩

/-- 'x != x' of one and the same pointer in an 'error': false. -/
theorem neq_same (a : Addr) (w : World) : (binOp .neq 40 (.iface 49 (.pointer (some a))) (.iface 49 (.pointer (some a)))).run Ybaf.prog w = .ok (.bool false) w := by
  obtain ⟨i, hi, hc⟩ := Ybaf.info49
  obtain ⟨j, hj⟩ := Ybaf.info51
  simp only [binOp]
  simp [Op.equal, Op.maxDepth, run_equalIn_iface_ptr_same w 9998 a Ybaf.underlying40 Ybaf.underlying49 hi hc hj]

theorem unw_big (a : Option Addr) (n cap : Nat) (w : World) (hn : 1024 < n) (hm : n ≤ maxLen) :
    Calls Ybaf.prog 6 #[.slice a n cap] w fun e w' => e = .returned (.bool true) ∧ Below w.heap.size w w' := by
  unfold maxLen at hm
  have h1 : (1024 : Int) < (n : Int) := by omega
  go_enter Ybaf.func6, Ybaf.ntmps6
  go_wp2
  go_ret
  exact ⟨rfl, Below.refl _ _⟩

theorem Ybaf.size40 : (Ybaf.prog.info? 40).map (·.size) = some 1 := by kernel_rfl

set_option maxHeartbeats 800000 in
theorem unw_nil (w : World) :
    Calls Ybaf.prog 6 #[.slice none 0 0] w fun e w' => e = .returned (.bool true) ∧ Below w.heap.size w w' := by
  have q26 : ∀ (w : World) (a : Option Addr) (n c n' c' : Nat), (binOp .eql 26 (.slice a n c) (.slice none n' c')).run Ybaf.prog w = .ok (.bool a.isNone) w := fun w a n c n' c' => Lib.run_eql_slice_nil w _ _ a n c n' c' Ybaf.underlying26
  have q31 : ∀ (w : World) (a : Option Addr) (n c n' c' : Nat), (binOp .eql 31 (.slice a n c) (.slice none n' c')).run Ybaf.prog w = .ok (.bool a.isNone) w := fun w a n c n' c' => Lib.run_eql_slice_nil w _ _ a n c n' c' Ybaf.underlying31
  have hmk : ∀ w : World, (Instr.makeSlice 31 (.int .i64 0) (.int .i64 0)).run Ybaf.prog w = .ok (.slice (some ⟨w.heap.size, 0, none⟩) 0 0) (w.alloc (.cells (madeCells #[.nilIface] 0) 40)) :=
    fun w => run_make_row' (P := Ybaf.prog) 31 40 .nilIface 16 Ybaf.underlying31 Ybaf.info40 rfl .i64 .i64 0 (by omega) (by omega) w
  have hcp : ∀ (w : World) (dp sp : Option Addr) (dc sc : Nat), (Builtin.copy_ #[31, 31] 3 #[.slice dp 0 dc, .slice sp 0 sc]).run Ybaf.prog w = .ok (goInt 0) w :=
    fun w dp sp dc sc => run_copy_none (P := Ybaf.prog) w 31 31 3 40 dp sp 0 dc 0 sc Ybaf.underlying31 Ybaf.size40 rfl
  go_enter Ybaf.func6, Ybaf.ntmps6
  go_wp2_with (go_at_call 8; refine (build_nil _ _).mono ?_; rintro e w' ⟨rfl, rfl⟩)
  refine (inv_zero (w.heap.size + 1 + 1) none 0 _ (by go_simp)).mono ?_
  rintro e w' ⟨rfl, rfl⟩
  go_wp2
  refine wp_loop_rounds 1 ?_
  rw [rounds_succ]
  go_wp2
  go_ret
  exact ⟨rfl, (((Below.refl _ _).alloc (Nat.le_refl _) _).alloc (by simp) _).alloc (by simp; omega) _⟩

set_option maxHeartbeats 800000 in
theorem unw_zero (a : Addr) (cap : Nat) (w : World) :
    Calls Ybaf.prog 6 #[.slice (some a) 0 cap] w fun e w' => e = .returned (.bool true) ∧ Below w.heap.size w w' := by
  have q26 : ∀ (w : World) (a : Option Addr) (n c n' c' : Nat), (binOp .eql 26 (.slice a n c) (.slice none n' c')).run Ybaf.prog w = .ok (.bool a.isNone) w := fun w a n c n' c' => Lib.run_eql_slice_nil w _ _ a n c n' c' Ybaf.underlying26
  have q31 : ∀ (w : World) (a : Option Addr) (n c n' c' : Nat), (binOp .eql 31 (.slice a n c) (.slice none n' c')).run Ybaf.prog w = .ok (.bool a.isNone) w := fun w a n c n' c' => Lib.run_eql_slice_nil w _ _ a n c n' c' Ybaf.underlying31
  have hmk : ∀ w : World, (Instr.makeSlice 31 (.int .i64 0) (.int .i64 0)).run Ybaf.prog w = .ok (.slice (some ⟨w.heap.size, 0, none⟩) 0 0) (w.alloc (.cells (madeCells #[.nilIface] 0) 40)) :=
    fun w => run_make_row' (P := Ybaf.prog) 31 40 .nilIface 16 Ybaf.underlying31 Ybaf.info40 rfl .i64 .i64 0 (by omega) (by omega) w
  have hcp : ∀ (w : World) (dp sp : Option Addr) (dc sc : Nat), (Builtin.copy_ #[31, 31] 3 #[.slice dp 0 dc, .slice sp 0 sc]).run Ybaf.prog w = .ok (goInt 0) w :=
    fun w dp sp dc sc => run_copy_none (P := Ybaf.prog) w 31 31 3 40 dp sp 0 dc 0 sc Ybaf.underlying31 Ybaf.size40 rfl
  go_enter Ybaf.func6, Ybaf.ntmps6
  go_wp2_with fail
  refine (build_zero (w.heap.size + 1) a cap w.heap.size (fun _ => ByteArray.empty) _ (by simp)).mono ?_
  rintro e w2 ⟨rfl, hR⟩
  obtain ⟨hl, hlt, hb⟩ := log_kept hR
  clear hR
  go_wp2_with fail
  refine (inv_zero (w2.heap.size + 1) (some ⟨w.heap.size + 1, 0, none⟩) 0 _ (by go_simp)).mono ?_
  rintro e w' ⟨rfl, rfl⟩
  go_wp2
  refine wp_loop_rounds 1 ?_
  rw [rounds_succ]
  go_wp2
  go_ret
  exact ⟨rfl, (hb.alloc (Nat.le_of_lt hlt) _).alloc (by simp; omega) _⟩

/-- The list, and its copy at block K; the InvalidError at block E. -/
structure Copied (B K E n : Nat) (w : World) : Prop where
  list : ∀ j, j < n → w.cell? ⟨B, j, none⟩ = some (faultAt B j)
  copy : ∀ j, j < n → w.cell? ⟨K, j, none⟩ = some (faultAt B j)
  inv : w.cell? ⟨E, 0, none⟩ = some (.slice (some ⟨B, 0, none⟩) n n)

theorem Copied.drewN {B K E n : Nat} {w : World} (h : Copied B K E n w) (m : Nat) : Copied B K E n (w.drewN m) := ⟨h.list, h.copy, h.inv⟩
theorem below_drewN {B : Nat} {a w : World} (h : Below B a w) (m : Nat) : Below B a (w.drewN m) := ⟨h.os, h.tape, h.output, h.size, h.block⟩

theorem unw_copy {w w2 : World} {n : Nat} {S : Nat → ByteArray} (h : Rel (w.alloc (.cells #[.slice none 0 0] 30)) w2 (w.heap.size + 1) w.heap.size n S n) :
    ∃ w3, (Builtin.copy_ #[31, 31] 3 #[.slice (some ⟨w2.heap.size, 0, none⟩) n n, .slice (some ⟨w.heap.size + 1, 0, none⟩) n n]).run Ybaf.prog (w2.alloc (.cells (madeCells #[.nilIface] n) 40)) = .ok (goInt n) w3 ∧
      w3.heap.size = w2.heap.size + 1 ∧ Below w2.heap.size w2 w3 ∧ (∀ j, j < n → w3.cell? ⟨w2.heap.size, j, none⟩ = some (faultAt (w.heap.size + 1) j)) := by
  obtain ⟨h1, h2, h3, h4⟩ := h
  have hrun := run_copy_row (P := Ybaf.prog) (w2.alloc (.cells (madeCells #[.nilIface] n) 40)) 31 31 3 40 w2.heap.size 0 n n ⟨w.heap.size + 1, 0, none⟩ n n (madeCells #[.nilIface] n) 40 ((List.range n).map (faultAt (w.heap.size + 1)))
    Ybaf.underlying31 Ybaf.size40 (heap_alloc_new _ _) (by simp) ?_ (by simp [size_madeCells]) ?_
  · refine ⟨_, by simpa using hrun, by simp [World.setRow], ?_, ?_⟩
    · exact below_setRow ((Below.refl _ _).alloc (Nat.le_refl _) _) (Nat.le_refl _) _
    · intro j hj
      have := setRow_heap (w2.alloc (.cells (madeCells #[.nilIface] n) 40)) w2.heap.size _ ((List.range n).map (faultAt (w.heap.size + 1)) ++ List.drop n (madeCells #[.nilIface] n).toList).toArray 40 (0, 0) (heap_alloc_new _ _)
      simp only [World.cell?]
      rw [this]
      simp only [Option.isSome_none, Bool.false_eq_true, if_false, List.getElem?_toArray]
      rw [List.getElem?_append_left (by simpa using hj)]
      simp [hj]
  · intro j v hj
    have hjn : j < n := by have := (List.getElem?_eq_some_iff.1 hj).1; simpa using this
    simp [hjn] at hj
    subst hj
    have := (h1.alloc (.cells (madeCells #[.nilIface] n) 40)).cell (i := j) hjn
    have e : (⟨w.heap.size + 1, 0, none⟩ : Addr).add j = ⟨w.heap.size + 1, j, none⟩ := by unfold Addr.add; split <;> simp_all
    rw [e]
    simpa [hjn] using this
  · intro v hv
    simp only [List.mem_map] at hv
    obtain ⟨j, _, rfl⟩ := hv
    rfl

theorem unw_ready {w w2 w3 : World} {n : Nat} {S : Nat → ByteArray} (hn : 1 ≤ n) (h : Rel (w.alloc (.cells #[.slice none 0 0] 30)) w2 (w.heap.size + 1) w.heap.size n S n) (hb : Below w2.heap.size w2 w3) :
    Ready w3.heap.size (w.heap.size + 1) (w.heap.size + 2) w.heap.size n (S 0) 0 (w3.alloc (.cells #[.slice (some ⟨w.heap.size + 1, 0, none⟩) n n] 35)) := by
  obtain ⟨h1, h2, h3, h4⟩ := h
  have hs := hb.size
  have hl : w3.heap[w.heap.size]? = some (.cells #[.slice none 0 0] 30 (0, 0)) := by
    rw [hb.block _ (by omega), h4.block _ (by omega)]; exact heap_alloc_new _ _
  have h20 := ((h2 0 (by omega)).of_block (hb.block _ (h2 0 (by omega)).lt)).alloc (.cells #[.slice (some ⟨w.heap.size + 1, 0, none⟩) n n] 35)
  have h10 := (h1.of_block (hb.block _ h1.lt)).alloc (.cells #[.slice (some ⟨w.heap.size + 1, 0, none⟩) n n] 35)
  have hll : (w3.alloc (.cells #[.slice (some ⟨w.heap.size + 1, 0, none⟩) n n] 35)).heap[w.heap.size]? = some (.cells #[.slice none 0 0] 30 (0, 0)) := by
    rw [Below.heap_alloc _ _ _ (by omega)]; exact hl
  refine ⟨?_, ?_, ?_, ?_, ?_, ?_, ?_, by omega, by omega⟩
  · simp only [World.cell?, heap_alloc_new]; rfl
  · have := h10.cell (i := 0) (by omega)
    simpa [faultAt, show 0 < n by omega] using this
  · exact h20.cell (i := 0) (by omega)
  · exact h20.cell (i := 1) (by omega)
  · exact h20.cell (i := 2) (by omega)
  · simp [World.cell?, hll]
  · simp [World.frozen?, hll]

set_option maxHeartbeats 1600000 in
theorem unw_some (F : Interp) (b off n cap : Nat) (S : Nat → ByteArray) (w : World) (hF : F.answers w.tape) (h1n : 1 ≤ n) (hn : n ≤ 1024) (hb : b < w.heap.size) (hS : (S 0).size ≤ 140737488355328)
    (hc : ∀ j, j < n → w.cell? ⟨b, off + j, none⟩ = some (.string (S j))) :
    Calls Ybaf.prog 6 #[.slice (some ⟨b, off, none⟩) n cap] w fun e w' => e = .returned (.bool true) ∧ Below w.heap.size w w' := by
  have q26 : ∀ (w : World) (a : Option Addr) (n c n' c' : Nat), (binOp .eql 26 (.slice a n c) (.slice none n' c')).run Ybaf.prog w = .ok (.bool a.isNone) w := fun w a n c n' c' => Lib.run_eql_slice_nil w _ _ a n c n' c' Ybaf.underlying26
  have q31 : ∀ (w : World) (a : Option Addr) (n c n' c' : Nat), (binOp .eql 31 (.slice a n c) (.slice none n' c')).run Ybaf.prog w = .ok (.bool a.isNone) w := fun w a n c n' c' => Lib.run_eql_slice_nil w _ _ a n c n' c' Ybaf.underlying31
  have hmk := run_make_row' (P := Ybaf.prog) 31 40 .nilIface 16 Ybaf.underlying31 Ybaf.info40 rfl .i64 .i64 n (by omega) (by omega)
  have hbig : decide ((1024 : Int) < (n : Int)) = false := by simp; omega
  go_enter Ybaf.func6, Ybaf.ntmps6
  go_wp2_with fail
  refine (build_some (w.heap.size + 1) b off n cap w.heap.size S _ (by simp) hn (by simp; omega) (fun j hj => by rw [World.cell?_alloc_past _ _ _ hb]; exact hc j hj)).mono ?_
  rintro e w2 ⟨rfl, hR⟩
  obtain ⟨w3, hcp, hs3, hb3, hK⟩ := unw_copy hR
  have hrd := unw_ready h1n hR hb3
  have hS3 : Hid (w3.heap.size = w2.heap.size + 1) := hs3
  obtain ⟨hl, hlt, hbel⟩ := log_kept hR
  have hlist : ∀ j, j < n → w2.cell? ⟨w.heap.size + 1, j, none⟩ = some (faultAt (w.heap.size + 1) j) := fun j hj => by have := hR.1.cell hj; simpa [hj] using this
  have hlt1 : w.heap.size + 1 < w2.heap.size := hR.1.lt
  clear hR hs3 hc
  go_wp2_with fail
  refine (inv_some F w3.heap.size (w.heap.size + 1) (w.heap.size + 2) w.heap.size n (S 0) 0 _ (by show F.answers w3.tape; rw [hb3.tape, hbel.tape]; exact hF) h1n hn hS hrd).mono ?_
  rintro e w4 ⟨t, rfl, _, _, _, hold, hb4⟩
  have hC : Copied (w.heap.size + 1) w2.heap.size w3.heap.size n w4 := by
    have hs3 := hS3.out
    refine ⟨fun j hj => ?_, fun j hj => ?_, ?_⟩
    · rw [World.cell?_of_block (w := w3.alloc (.cells #[.slice (some ⟨w.heap.size + 1, 0, none⟩) n n] 35)) (hold _ (by simp; omega) (by simp)), World.cell?_alloc_past _ _ _ (by omega), hb3.cell (p := ⟨w.heap.size + 1, j, none⟩) hlt1]
      exact hlist j hj
    · rw [World.cell?_of_block (w := w3.alloc (.cells #[.slice (some ⟨w.heap.size + 1, 0, none⟩) n n] 35)) (hold _ (by simp; omega) (by simp; omega)), World.cell?_alloc_past _ _ _ (by omega)]
      exact hK j hj
    · rw [World.cell?_of_block (w := w3.alloc (.cells #[.slice (some ⟨w.heap.size + 1, 0, none⟩) n n] 35)) (hold _ (by simp) (by simp; omega))]
      simp only [World.cell?, heap_alloc_new]; rfl
  have hbel4 : Below w.heap.size w w4 := ((hbel.trans (hb3.mono (Nat.le_of_lt hlt))).alloc (by have := hb3.size; omega) _).trans hb4
  have hE := hC.inv
  clear hold hb4 hrd hl hbel hcp hS3 hb3 hK hlist hlt1 hlt
  generalize w2.heap.size = K at *
  generalize w3.heap.size = E at *
  clear w2 w3
  go_wp2
  go_loopw [8] (fun i wr => ∃ k : Nat, k ≤ n ∧ i = .int .i64 k ∧ Copied (w.heap.size + 1) K E n wr ∧ Below w.heap.size w wr) (fun i _ => n - (intOf i).toNat)
  case atStart => exact ⟨0, Nat.zero_le _, rfl, hC, hbel4⟩
  case round =>
    clear hmk hC hE hbel4 q26 q31
    obtain ⟨k, hk, rfl, hR, hbr⟩ := hrel
    by_cases hlt : k < n
    · have h1 := hR.list k hlt
      have h2 := hR.copy k hlt
      have h3 := hR.inv
      unfold faultAt at h1 h2
      have hq := neq_same
      have i0 : (0 : Int) ≤ (k : Int) := by omega
      have i1 : (k : Int) < (n : Int) := by omega
      go_wp2
      go_quiet (fail)
      go_wp2
      go_roundw
      case rel => exact ⟨k + 1, by omega, by go_num, hR.drewN _, below_drewN hbr _⟩
      case measure => simp [intOf]; omega
    · obtain rfl : k = n := by omega
      go_wp2
      go_ret
      exact ⟨rfl, hbr⟩
end Go.Proofs.YbulkcmquFmt
