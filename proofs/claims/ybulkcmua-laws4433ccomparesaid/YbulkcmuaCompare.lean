/- THE WALK OF LawS4433CCompare (function 4). -/
import Derived.Test.YbulkcmuaArith
namespace Go.Proofs.Ybulkcmua
open Go.RowKit
attribute [local go_sem] run_store_float

/-- The closure 'compare': it counts, keeps the pair, answers holds. -/
theorem close9 (l r B : Nat) (holds : Bool) (w : World) (h1 : w.cell? ⟨B + 1, 0, none⟩ = some (.bool holds)) (h3 : w.cell? ⟨B + 3, 0, none⟩ = some (.int .i64 0)) (f3 : w.frozen? ⟨B + 3, 0, none⟩ = false)
    (h4 : w.cell? ⟨B + 4, 0, none⟩ = some (.float .f64 0)) (f4 : w.frozen? ⟨B + 4, 0, none⟩ = false) (h5 : w.cell? ⟨B + 5, 0, none⟩ = some (.float .f64 0)) (f5 : w.frozen? ⟨B + 5, 0, none⟩ = false) :
    Calls Yba.prog 9 #[.float .f64 l, .float .f64 r, .pointer (some ⟨B + 3, 0, none⟩), .pointer (some ⟨B + 4, 0, none⟩), .pointer (some ⟨B + 5, 0, none⟩), .pointer (some ⟨B + 1, 0, none⟩)] w fun e w' =>
      e = .returned (.bool holds) ∧ w' = ((w.setCell ⟨B + 3, 0, none⟩ (.int .i64 1)).setCell ⟨B + 4, 0, none⟩ (.float .f64 l)).setCell ⟨B + 5, 0, none⟩ (.float .f64 r) := by
  go_enter Yba.func9, Yba.ntmps9
  go_wp2
  go_ret
  exact ⟨rfl, rfl⟩

/-- What apply answers with a compare. -/
def ansV (rb holds : Bool) (kept : Nat) : Nat := if rb then (if holds then 4607182418800017408 else 0) else kept
def ansOk (rb holds : Bool) : Bool := if rb then true else holds

set_option maxHeartbeats 1600000 in
theorem apply6c (l r kept B : Nat) (rb holds : Bool) (w : World) (hB : B + 6 < w.heap.size) (h1 : w.cell? ⟨B + 1, 0, none⟩ = some (.bool holds)) (h2 : w.cell? ⟨B + 2, 0, none⟩ = some (.int .i64 0)) (h3 : w.cell? ⟨B + 3, 0, none⟩ = some (.int .i64 0)) (f3 : w.frozen? ⟨B + 3, 0, none⟩ = false)
    (h4 : w.cell? ⟨B + 4, 0, none⟩ = some (.float .f64 0)) (f4 : w.frozen? ⟨B + 4, 0, none⟩ = false) (h5 : w.cell? ⟨B + 5, 0, none⟩ = some (.float .f64 0)) (f5 : w.frozen? ⟨B + 5, 0, none⟩ = false) (h6 : w.cell? ⟨B + 6, 4, none⟩ = some (.bool rb)) :
    Calls Yba.prog 6 #[.pointer (some ⟨B + 6, 0, none⟩), .agg #[.int .i64 0, .bool false, .func (.func 8) #[] #[.pointer (some ⟨B + 2, 0, none⟩), .pointer (some ⟨B, 0, none⟩)],
        .func (.func 9) #[] #[.pointer (some ⟨B + 3, 0, none⟩), .pointer (some ⟨B + 4, 0, none⟩), .pointer (some ⟨B + 5, 0, none⟩), .pointer (some ⟨B + 1, 0, none⟩)]],
      .float .f64 l, .float .f64 r, .float .f64 kept] w fun e w' => e = .returned (.tuple #[.float .f64 (ansV rb holds kept), .bool (ansOk rb holds)]) ∧ Below B w w' ∧ B + 6 < w'.heap.size ∧
        w'.cell? ⟨B + 1, 0, none⟩ = some (.bool holds) ∧ w'.cell? ⟨B + 2, 0, none⟩ = some (.int .i64 0) ∧ w'.cell? ⟨B + 3, 0, none⟩ = some (.int .i64 1) ∧ w'.cell? ⟨B + 4, 0, none⟩ = some (.float .f64 l) ∧ w'.cell? ⟨B + 5, 0, none⟩ = some (.float .f64 r) := by
  have hn39 := fn39
  have l0 : B < w.heap.size := by omega
  have l1 : B + 1 < w.heap.size := by omega
  have l2 : B + 2 < w.heap.size := by omega
  have l3 : B + 3 < w.heap.size := by omega
  have l4 : B + 4 < w.heap.size := by omega
  have l5 : B + 5 < w.heap.size := by omega
  go_enter Yba.func6, Yba.ntmps6
  go_wp2_with fail
  refine (close9 l r B holds _ (by go_simp) (by go_simp) (by go_simp) (by go_simp) (by go_simp) (by go_simp) (by go_simp)).mono ?_
  rintro e w' ⟨rfl, rfl⟩
  cases rb <;> cases holds
  all_goals
    go_wp2
    go_ret2
    refine ⟨rfl, ?_, by simp; omega, by go_simp, by go_simp, by go_simp, by go_simp, by go_simp⟩
    exact ((((Below.refl B w).setCell (p := ⟨B + 3, 0, none⟩) (by simp) _).setCell (p := ⟨B + 4, 0, none⟩) (by simp) _).setCell (p := ⟨B + 5, 0, none⟩) (by simp) _).alloc (by simp; omega) _

set_option maxHeartbeats 1600000 in
set_option maxRecDepth 100000 in
theorem compare_walk (l r kept res : Nat) (holds rb : Bool) (w : World) :
    Calls Yba.prog 4 #[.float .f64 l, .float .f64 r, .float .f64 kept, .float .f64 res, .bool holds, .bool rb] w fun e w' => e = .returned (.bool true) ∧ Below w.heap.size w w' := by
  have hm := hmf
  have hnot : ∀ (x : Bool) (w : World), (Op.unary .not (.bool x)).run Yba.prog w = .ok (.bool (!x)) w := fun _ _ => rfl
  go_enter Yba.func4, Yba.ntmps4
  go_wp2_with fail
  refine (apply6c l r kept w.heap.size rb holds _ (by simp) (by go_simp) (by go_simp) (by go_simp) (by go_simp) (by go_simp) (by go_simp) (by go_simp) (by go_simp) (by go_simp)).mono ?_
  rintro e W1 ⟨rfl, hb, hl, c1, c2, c3, c4, c5⟩
  have hbw : Below w.heap.size w W1 := ((((((((Below.refl w.heap.size w).alloc (Nat.le_refl _) _).alloc (by simp) _).alloc (by simp; omega) _).alloc (by simp; omega) _).alloc (by simp; omega) _).alloc (by simp; omega) _).alloc (by simp; omega) _).trans hb
  clear hb
  cases rb <;> cases holds
  all_goals
    simp only [ansV, ansOk, if_true, if_false, Bool.false_eq_true]
    go_wp2_with (go_at_call 7; refine (eq7 _ _).mono ?_; rintro e w' ⟨rfl, rfl⟩)
    go_ret
    exact ⟨rfl, hbw⟩
end Go.Proofs.Ybulkcmua
