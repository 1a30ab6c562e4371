/- newHead("", nil) (function 7). -/
import Derived.Test.YbulkcmsyDbHeads
import Derived.Test.YbulkcmsyRange
namespace Go.Proofs.Ybulkcmsy
open Go.RowKit Go.Shelf

/-- The cells of a new branch: all that is asked of them. -/
theorem branch_made : ∃ cs : Array Value, cs[0]? = some (.pointer none) ∧ (∀ k, 1 ≤ k → k < 7 → cs[109 + k]? = some (.int .i32 0)) ∧ ∀ w, (zeroValue 100).run Yba.prog w = .ok (.agg cs) w := by
  refine ⟨((match Yba.prog.info? 100 with | some i => (match i.zero with | some z => z.cells | Option.none => #[]) | Option.none => #[]) : Array Value), by kernel_rfl, fun k h1 h7 => ?_, fun w => by kernel_rfl⟩
  rcases (by omega : k = 1 ∨ k = 2 ∨ k = 3 ∨ k = 4 ∨ k = 5 ∨ k = 6) with rfl | rfl | rfl | rfl | rfl | rfl
  all_goals kernel_rfl

def moreNew (b : Option Addr) : Array Value := #[.int .i32 0, .int .u32 0, .pointer none, .pointer none, .int .i64 0, .pointer b, .pointer none, .slice none 0 0, .bool false, .int .i32 0]
def headNew (mo : Nat) : Array Value := #[.pointer none, .int .u8 0, .int .u8 0, .int .u8 0, .int .u8 0, .int .i32 0, .string ⟨#[]⟩, .pointer none, .pointer (some ⟨mo, 0, none⟩)]

set_option maxRecDepth 100000 in
theorem new7 (w : World) (cs : Array Value) (hz : ∀ w, (zeroValue 100).run Yba.prog w = .ok (.agg cs) w) :
    Calls Yba.prog 7 #[.string ⟨#[]⟩, .pointer none] w fun e w' => e = .returned (.pointer (some ⟨w.heap.size + 1, 0, none⟩)) ∧
      w' = ((w.alloc (.cells (moreNew (some ⟨w.heap.size + 2, 0, none⟩)) 45)).alloc (.cells (headNew w.heap.size) 31)).alloc (.cells cs 100) := by
  go_enter Yba.func7, Yba.ntmps7
  go_wp2
  go_ret
  exact ⟨rfl, rfl⟩

theorem new7_at (w : World) :
    Calls Yba.prog 7 #[.string ⟨#[]⟩, .pointer none] w fun e w' => e = .returned (.pointer (some ⟨w.heap.size + 1, 0, none⟩)) ∧ Below w.heap.size w w' ∧ w'.heap.size = w.heap.size + 3 ∧
      w'.heap[w.heap.size + 1]? = some (.cells (headNew w.heap.size) 31 (0, 0)) ∧ w'.heap[w.heap.size]? = some (.cells (moreNew (some ⟨w.heap.size + 2, 0, none⟩)) 45 (0, 0)) ∧
      ∃ cs : Array Value, cs[0]? = some (.pointer none) ∧ (∀ k, 1 ≤ k → k < 7 → cs[109 + k]? = some (.int .i32 0)) ∧ w'.heap[w.heap.size + 2]? = some (.cells cs 100 (0, 0)) := by
  obtain ⟨cs, h0, hk, hz⟩ := branch_made
  refine (new7 w cs hz).mono ?_
  rintro e w' ⟨rfl, rfl⟩
  refine ⟨rfl, ?_, by simp, ?_, ?_, cs, h0, hk, ?_⟩
  · exact (((Below.refl _ w).alloc (Nat.le_refl _) _).alloc (by simp) _).alloc (by simp; omega) _
  · rw [Below.heap_alloc _ _ _ (by simp)]
    have := World.alloc_heap_new (w.alloc (.cells (moreNew (some ⟨w.heap.size + 2, 0, none⟩)) 45)) (.cells (headNew w.heap.size) 31)
    rwa [World.size_alloc] at this
  · rw [Below.heap_alloc _ _ _ (by simp; omega), Below.heap_alloc _ _ _ (by simp)]; exact World.alloc_heap_new _ _
  · have := World.alloc_heap_new ((w.alloc (.cells (moreNew (some ⟨w.heap.size + 2, 0, none⟩)) 45)).alloc (.cells (headNew w.heap.size) 31)) (.cells cs 100)
    rwa [World.size_alloc, World.size_alloc] at this
end Go.Proofs.Ybulkcmsy
