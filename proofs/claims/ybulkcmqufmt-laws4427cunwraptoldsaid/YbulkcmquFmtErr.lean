/- THE METHOD (*zzs4427cerr).Error (function 39), met once, while the log's list is nil: it hands back its text and appends its number to the log. -/
import Derived.Test.YbulkcmquFmtRows
import Derived.WalkKit
import Derived.WalkSpells
import Derived.WalkLawsBesides
import Derived.Deep.RegionLaw
import Derived.Deep.DrawnRows
import Derived.Deep.AppendLies
namespace Go.Proofs.YbulkcmquFmt
open Go.RowKit
attribute [local go_sem ↓] Go.wp_at_zero Go.wp_at_succ

theorem Ybaf.info3 : (Ybaf.prog.info? 3).map (fun i => (i.zero, i.size, i.bytes)) = some (some (.int .i64 0), 1, 8) := by kernel_rfl

set_option maxRecDepth 100000 in
set_option maxHeartbeats 1600000 in
theorem err_call (q L : Nat) (s : ByteArray) (i : Int) (w : World) (hq0 : w.cell? ⟨q, 0, none⟩ = some (.string s)) (hq1 : w.cell? ⟨q, 1, none⟩ = some (.int .i64 i))
    (hq2 : w.cell? ⟨q, 2, none⟩ = some (.pointer (some ⟨L, 0, none⟩))) (hL : w.cell? ⟨L, 0, none⟩ = some (.slice none 0 0)) (hLf : w.frozen? ⟨L, 0, none⟩ = false) (hqL : q ≠ L) :
    Calls Ybaf.prog 39 #[.pointer (some ⟨q, 0, none⟩)] w fun e w' => e = .returned (.string s) ∧ ∃ g cap w1, w' = w1.setCell ⟨L, 0, none⟩ (.slice (some ⟨g, 0, none⟩) 1 cap) ∧ w.heap.size ≤ g ∧
      w1.cell? ⟨g, 0, none⟩ = some (.int .i64 i) ∧ Below w.heap.size w w1 := by
  obtain ⟨i0, hi0, hz0, hz1, hz2⟩ := info_parts Ybaf.info3
  have lq := World.block_lt_of_cell? w _ hq0
  have lL := World.block_lt_of_cell? w _ hL
  go_enter Ybaf.func39, Ybaf.ntmps39
  go_wp2_with fail
  go_region_law
    ((refine step_append_lies _ (by rfl) _ _ _ (by rfl) w.heap.size 3 i0 _ 1 8 Ybaf.underlying28 hi0 hz0 hz1 hz2 rfl (by omega) (.slice none 0 0) 0 [] (by rfl) (World.ownsRow_nil _ _ _ _)
        ⟨w.heap.size, 0, none⟩ 1 1 [.int .i64 i] (by rfl) (by rfl) (World.news_of_block (cs := #[.int .i64 i]) (t := 3) (fr := (0, 0)) (heap_alloc_new w _)) (by simp [Value.oneCell'])
        (by omega) (by unfold maxLen; omega) (by omega) (by simp) (w.heap.size + 1) (by simp) ?_; intro gg cap w1 hown1 hgrow hat hlt
      have hb : Below w.heap.size w w1 := (((Below.refl w.heap.size w).alloc (Nat.le_refl _) _).drew).grown hgrow (by simp) (fun k h => by cases h)
      have hLf1 := (hb.frozen (p := ⟨L, 0, none⟩) lL).trans hLf
      have hL1 := (hb.cell (p := ⟨L, 0, none⟩) lL).trans hL
      have hq01 := (hb.cell (p := ⟨q, 0, none⟩) lq).trans hq0
      have hq21 := (hb.cell (p := ⟨q, 2, none⟩) lq).trans hq2
      have hcg : w1.cell? ⟨gg, 0, none⟩ = some (.int .i64 i) := hown1.cellAt 0 (by decide)
      have hle : w.heap.size ≤ gg := by rcases hat with h | h; · cases h
                                        · omega
      clear hown1 hgrow hat))
  all_goals
    go_wp2
    go_ret
    exact ⟨rfl, gg, cap, w1, rfl, hle, hcg, hb⟩
end Go.Proofs.YbulkcmquFmt
