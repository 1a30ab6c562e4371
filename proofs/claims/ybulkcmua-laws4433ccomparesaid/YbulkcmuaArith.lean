/- THE WALK OF LawS4433CArith (function 3). -/
import Derived.Test.YbulkcmuaRows
import Derived.WalkKit
import Derived.WalkSpells
import Derived.WalkLawsBesides
import Derived.Laws.Externs
import Derived.Below
namespace Go.Proofs.Ybulkcmua
open Go.RowKit

theorem run_store_float {P : Program} {w : World} (a : Addr) (k : FloatKind) (b : Nat) (m : Mode) : (store a (.float k b) m).run P w = stored P w a (.float k b) m := run_store P w a _ m rfl
attribute [local go_sem] run_store_float

theorem bits10 (b : Nat) (w : World) : (callFunc 10 #[.float .f64 b]).run Yba.prog w = .ok (.value (.int .u64 b)) w := by
  rw [run_callFunc_extern (e := Extern.MathFloatBits.float64bits) Yba.func10 (by kernel_rfl) (by kernel_rfl) (by kernel_rfl) (by kernel_rfl)]
  rfl

theorem hmf : ∀ (fn : Fn) (first cap : Array Value) (w : World), (Instr.makeFunc fn first cap).run Yba.prog w = .ok (.func fn first cap) w := fun _ _ _ _ => rfl

theorem eq7 (b : Nat) (w : World) : Calls Yba.prog 7 #[.float .f64 b, .float .f64 b] w fun e w' => e = .returned (.bool true) ∧ w' = w := by
  have h10 := bits10
  go_enter Yba.func7, Yba.ntmps7
  go_wp2
  go_ret
  exact ⟨rfl, rfl⟩

theorem nil39 (w : World) : (binOp .eql 39 .nilFunc .nilFunc).run Yba.prog w = .ok (.bool true) w := by kernel_rfl
theorem fn39 (f : FuncId) (a b : Array Value) (w : World) : (binOp .eql 39 (.func (.func f) a b) .nilFunc).run Yba.prog w = .ok (.bool false) w := by kernel_rfl

/-- The closure 'arith': it counts, keeps the pair, answers res. -/
theorem close5 (l r res B : Nat) (w : World) (h0 : w.cell? ⟨B, 0, none⟩ = some (.float .f64 res)) (h1 : w.cell? ⟨B + 1, 0, none⟩ = some (.int .i64 0)) (f1 : w.frozen? ⟨B + 1, 0, none⟩ = false)
    (h2 : w.cell? ⟨B + 2, 0, none⟩ = some (.float .f64 0)) (f2 : w.frozen? ⟨B + 2, 0, none⟩ = false) (h3 : w.cell? ⟨B + 3, 0, none⟩ = some (.float .f64 0)) (f3 : w.frozen? ⟨B + 3, 0, none⟩ = false) :
    Calls Yba.prog 5 #[.float .f64 l, .float .f64 r, .pointer (some ⟨B + 1, 0, none⟩), .pointer (some ⟨B + 2, 0, none⟩), .pointer (some ⟨B + 3, 0, none⟩), .pointer (some ⟨B, 0, none⟩)] w fun e w' =>
      e = .returned (.float .f64 res) ∧ w' = ((w.setCell ⟨B + 1, 0, none⟩ (.int .i64 1)).setCell ⟨B + 2, 0, none⟩ (.float .f64 l)).setCell ⟨B + 3, 0, none⟩ (.float .f64 r) := by
  go_enter Yba.func5, Yba.ntmps5
  go_wp2
  go_ret
  exact ⟨rfl, rfl⟩

set_option maxHeartbeats 1600000 in
theorem apply6 (eb l r kept res B : Nat) (w : World) (hB : B + 3 < w.heap.size) (h0 : w.cell? ⟨B, 0, none⟩ = some (.float .f64 res)) (h1 : w.cell? ⟨B + 1, 0, none⟩ = some (.int .i64 0)) (f1 : w.frozen? ⟨B + 1, 0, none⟩ = false)
    (h2 : w.cell? ⟨B + 2, 0, none⟩ = some (.float .f64 0)) (f2 : w.frozen? ⟨B + 2, 0, none⟩ = false) (h3 : w.cell? ⟨B + 3, 0, none⟩ = some (.float .f64 0)) (f3 : w.frozen? ⟨B + 3, 0, none⟩ = false) :
    Calls Yba.prog 6 #[.pointer (some ⟨eb, 0, none⟩), .agg #[.int .i64 0, .bool false, .func (.func 5) #[] #[.pointer (some ⟨B + 1, 0, none⟩), .pointer (some ⟨B + 2, 0, none⟩), .pointer (some ⟨B + 3, 0, none⟩), .pointer (some ⟨B, 0, none⟩)], .nilFunc],
      .float .f64 l, .float .f64 r, .float .f64 kept] w fun e w' => e = .returned (.tuple #[.float .f64 res, .bool true]) ∧ B + 3 < w'.heap.size ∧ Below B w w' ∧
        w'.cell? ⟨B, 0, none⟩ = some (.float .f64 res) ∧ w'.cell? ⟨B + 1, 0, none⟩ = some (.int .i64 1) ∧ w'.cell? ⟨B + 2, 0, none⟩ = some (.float .f64 l) ∧ w'.cell? ⟨B + 3, 0, none⟩ = some (.float .f64 r) := by
  have hn39 := nil39
  have l0 : B < w.heap.size := by omega
  have l1 : B + 1 < w.heap.size := by omega
  have l2 : B + 2 < w.heap.size := by omega
  go_enter Yba.func6, Yba.ntmps6
  go_wp2_with (go_at_call 5; refine (close5 l r res B _ (by go_simp) (by go_simp) (by go_simp) (by go_simp) (by go_simp) (by go_simp) (by go_simp)).mono ?_; rintro e w' ⟨rfl, rfl⟩)
  go_ret2
  refine ⟨rfl, by simp; omega, ?_, by go_simp, by go_simp, by go_simp, by go_simp⟩
  exact ((((Below.refl B w).setCell (p := ⟨B + 1, 0, none⟩) (by simp) _).setCell (p := ⟨B + 2, 0, none⟩) (by simp) _).setCell (p := ⟨B + 3, 0, none⟩) (by simp) _).alloc (by simp; omega) _

set_option maxHeartbeats 1600000 in
set_option maxRecDepth 100000 in
theorem arith_walk (l r res kept : Nat) (rb : Bool) (w : World) :
    Calls Yba.prog 3 #[.float .f64 l, .float .f64 r, .float .f64 res, .float .f64 kept, .bool rb] w fun e w' => e = .returned (.bool true) ∧ Below w.heap.size w w' := by
  have hm := hmf
  go_enter Yba.func3, Yba.ntmps3
  go_wp2_with fail
  refine (apply6 (w.heap.size + 4) l r kept res w.heap.size _ (by simp) (by go_simp) (by go_simp) (by go_simp) (by go_simp) (by go_simp) (by go_simp) (by go_simp)).mono ?_
  rintro e W1 ⟨rfl, hl, hb, c0, c1, c2, c3⟩
  go_wp2_with (go_at_call 7; refine (eq7 _ _).mono ?_; rintro e w' ⟨rfl, rfl⟩)
  go_ret
  refine ⟨rfl, (((((Below.refl w.heap.size w).alloc (Nat.le_refl _) _).alloc (by simp) _).alloc (by simp; omega) _).alloc (by simp; omega) _).alloc (by simp; omega) _ |>.trans hb⟩
end Go.Proofs.Ybulkcmua
