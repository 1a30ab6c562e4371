/- THE WALK OF LawS4427CMessage (function 5). -/
import Derived.Test.YbulkcmquFmtBuild
import Derived.Test.YbulkcmquFmtInv
namespace Go.Proofs.YbulkcmquFmt
open Go.RowKit Go.Extern.Stop Go.Stop Go.Extern

theorem msg_big (a : Option Addr) (n cap : Nat) (w : World) (hn : 1024 < n) (hm : n ≤ maxLen) :
    Calls Ybaf.prog 5 #[.slice a n cap] w fun e w' => e = .returned (.bool true) ∧ Below w.heap.size w w' := by
  unfold maxLen at hm
  have h1 : (1024 : Int) < (n : Int) := by omega
  go_enter Ybaf.func5, Ybaf.ntmps5
  go_wp2
  go_ret
  exact ⟨rfl, Below.refl _ _⟩

set_option maxHeartbeats 800000 in
theorem msg_nil (w : World) :
    Calls Ybaf.prog 5 #[.slice none 0 0] w fun e w' => e = .returned (.bool true) ∧ Below w.heap.size w w' := by
  go_enter Ybaf.func5, Ybaf.ntmps5
  go_wp2_with (go_at_call 8; refine (build_nil _ _).mono ?_; rintro e w' ⟨rfl, rfl⟩)
  refine (inv_zero (w.heap.size + 1) none 0 _ (by go_simp)).mono ?_
  rintro e w' ⟨rfl, rfl⟩
  go_wp2
  go_ret
  exact ⟨rfl, ((Below.refl _ _).alloc (Nat.le_refl _) _).alloc (by simp) _⟩

/-- What lies ahead of the call of Error: the log, the list, the InvalidError. -/
theorem msg_ready {w w2 : World} {n : Nat} {S : Nat → ByteArray} (hn : 1 ≤ n) (h : Rel (w.alloc (.cells #[.slice none 0 0] 30)) w2 (w.heap.size + 1) w.heap.size n S n) :
    Ready w2.heap.size (w.heap.size + 1) (w.heap.size + 2) w.heap.size n (S 0) 0 (w2.alloc (.cells #[.slice (some ⟨w.heap.size + 1, 0, none⟩) n n] 35)) := by
  obtain ⟨h1, h2, h3, h4⟩ := h
  have hl : w2.heap[w.heap.size]? = some (.cells #[.slice none 0 0] 30 (0, 0)) := by
    rw [h4.block _ (by omega)]; exact heap_alloc_new _ _
  have h20 := (h2 0 (by omega)).alloc (.cells #[.slice (some ⟨w.heap.size + 1, 0, none⟩) n n] 35)
  have h10 := h1.alloc (.cells #[.slice (some ⟨w.heap.size + 1, 0, none⟩) n n] 35)
  have hll : (w2.alloc (.cells #[.slice (some ⟨w.heap.size + 1, 0, none⟩) n n] 35)).heap[w.heap.size]? = some (.cells #[.slice none 0 0] 30 (0, 0)) := by
    rw [Below.heap_alloc _ _ _ (by omega)]; exact hl
  refine ⟨?_, ?_, ?_, ?_, ?_, ?_, ?_, by omega, by omega⟩
  · simp only [World.cell?, heap_alloc_new]; rfl
  · have := h10.cell (i := 0) (by omega)
    simpa [faultAt, show 0 < n by omega] using this
  · exact h20.cell (i := 0) (by omega)
  · exact h20.cell (i := 1) (by omega)
  · exact h20.cell (i := 2) (by omega)
  · simp [World.cell?, hll]
  · simp [World.frozen?, hll]

theorem log_kept {w w2 : World} {n k : Nat} {S : Nat → ByteArray} (h : Rel (w.alloc (.cells #[.slice none 0 0] 30)) w2 (w.heap.size + 1) w.heap.size n S k) :
    w2.cell? ⟨w.heap.size, 0, none⟩ = some (.slice none 0 0) ∧ w.heap.size < w2.heap.size ∧ Below w.heap.size w w2 := by
  obtain ⟨h1, h2, h3, h4⟩ := h
  refine ⟨?_, by omega, ((Below.refl _ w).alloc (Nat.le_refl _) _).trans (h4.mono (by omega))⟩
  have hl : w2.heap[w.heap.size]? = some (.cells #[.slice none 0 0] 30 (0, 0)) := by
    rw [h4.block _ (by omega)]; exact heap_alloc_new _ _
  simp [World.cell?, hl]

set_option maxHeartbeats 800000 in
theorem msg_zero (a : Addr) (cap : Nat) (w : World) :
    Calls Ybaf.prog 5 #[.slice (some a) 0 cap] w fun e w' => e = .returned (.bool true) ∧ Below w.heap.size w w' := by
  go_enter Ybaf.func5, Ybaf.ntmps5
  go_wp2_with fail
  refine (build_zero (w.heap.size + 1) a cap w.heap.size (fun _ => ByteArray.empty) _ (by simp)).mono ?_
  rintro e w2 ⟨rfl, hR⟩
  obtain ⟨hl, hlt, hb⟩ := log_kept hR
  clear hR
  go_wp2_with fail
  refine (inv_zero w2.heap.size (some ⟨w.heap.size + 1, 0, none⟩) 0 _ (by go_simp)).mono ?_
  rintro e w' ⟨rfl, rfl⟩
  go_wp2
  go_ret
  exact ⟨rfl, hb.alloc (Nat.le_of_lt hlt) _⟩

set_option maxHeartbeats 800000 in
theorem msg_some (F : Interp) (b off n cap : Nat) (S : Nat → ByteArray) (w : World) (hF : F.answers w.tape) (h1n : 1 ≤ n) (hn : n ≤ 1024) (hb : b < w.heap.size) (hS : (S 0).size ≤ 140737488355328)
    (hc : ∀ j, j < n → w.cell? ⟨b, off + j, none⟩ = some (.string (S j))) :
    Calls Ybaf.prog 5 #[.slice (some ⟨b, off, none⟩) n cap] w fun e w' => e = .returned (.bool true) ∧ Below w.heap.size w w' := by
  have t0 : ((n : Int) == 0) = false := by rw [beq_eq_false_iff_ne]; omega
  go_enter Ybaf.func5, Ybaf.ntmps5
  go_wp2_with fail
  refine (build_some (w.heap.size + 1) b off n cap w.heap.size S _ (by simp) hn (by simp; omega) (fun j hj => by rw [World.cell?_alloc_past _ _ _ hb]; exact hc j hj)).mono ?_
  rintro e w2 ⟨rfl, hR⟩
  have hrd := msg_ready h1n hR
  obtain ⟨hl, hlt, hbel⟩ := log_kept hR
  clear hR
  go_wp2_with fail
  refine (inv_some F w2.heap.size (w.heap.size + 1) (w.heap.size + 2) w.heap.size n (S 0) 0 _ (by show F.answers w2.tape; rw [hbel.tape]; exact hF) h1n hn hS hrd).mono ?_
  rintro e w3 ⟨t, rfl, ht1, ht2, ⟨g, cg, hlog, hg⟩, hold, hb3⟩
  have hc0 : w3.cell? ⟨b, off, none⟩ = some (.string (S 0)) := by
    rw [(hb3.cell (p := ⟨b, off, none⟩) hb), World.cell?_alloc_past _ _ _ (by omega), hbel.cell (p := ⟨b, off, none⟩) hb]
    exact hc 0 (by omega)
  have hbel3 : Below w.heap.size w w3 := (hbel.alloc (Nat.le_of_lt hlt) _).trans hb3
  clear hold hb3 hrd hl hbel hc
  by_cases k1 : n = 1
  · have := ht1 k1
    subst this; subst k1
    clear ht1 ht2
    go_wp2
    go_ret
    exact ⟨by simp, hbel3⟩
  · by_cases k2 : n = 2
    · have := ht2 k2
      subst this; subst k2
      clear ht1 ht2
      go_wp2
      go_ret
      exact ⟨by simp [oneMore], hbel3⟩
    · clear ht1 ht2
      have t1 : ((n : Int) == 1) = false := by rw [beq_eq_false_iff_ne]; omega
      have t2 : ((n : Int) == 2) = false := by rw [beq_eq_false_iff_ne]; omega
      go_wp2
      go_ret
      exact ⟨rfl, hbel3⟩

end Go.Proofs.YbulkcmquFmt
