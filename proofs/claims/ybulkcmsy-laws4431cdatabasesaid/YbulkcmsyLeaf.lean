/- zzs4431cleaf (function 5): a new entry below p; where it is busy its lock in place holds S for a new transaction. -/
import Derived.Test.YbulkcmsyRows
import Derived.WalkKit
import Derived.WalkSpells
import Derived.WalkLawsBesides
import Derived.Deep.OwnRows
namespace Go.Proofs.Ybulkcmsy
open Go.RowKit

/-- The nine cells of an entry. -/
def leafCell (t : Option Addr) (nm : ByteArray) (p : Nat) (mo : Option Nat) : Nat → Value
  | 0 => .pointer t
  | 1 => .int .u8 (if t.isSome then 3 else 0)
  | 2 => .int .u8 0
  | 3 => .int .u8 0
  | 4 => .int .u8 0
  | 5 => .int .i32 0
  | 6 => .string nm
  | 7 => .pointer (some ⟨p, 0, none⟩)
  | _ => .pointer (mo.map fun b => ⟨b, 0, none⟩)

set_option maxHeartbeats 800000 in
theorem leaf_free (p : Nat) (nm : ByteArray) (w : World) :
    Calls Yba.prog 5 #[.pointer (some ⟨p, 0, none⟩), .string nm, .bool false] w fun e w' => e = .returned (.pointer (some ⟨w.heap.size, 0, none⟩)) ∧
      w' = w.alloc (.cells #[.pointer none, .int .u8 0, .int .u8 0, .int .u8 0, .int .u8 0, .int .i32 0, .string nm, .pointer (some ⟨p, 0, none⟩), .pointer none] 31) := by
  go_enter Yba.func5, Yba.ntmps5
  go_wp2
  go_ret
  exact ⟨rfl, rfl⟩

set_option maxHeartbeats 800000 in
theorem leaf_busy (p : Nat) (nm : ByteArray) (w : World) :
    Calls Yba.prog 5 #[.pointer (some ⟨p, 0, none⟩), .string nm, .bool true] w fun e w' => e = .returned (.pointer (some ⟨w.heap.size, 0, none⟩)) ∧
      w' = (w.alloc (.cells #[.pointer (some ⟨w.heap.size + 1, 0, none⟩), .int .u8 3, .int .u8 0, .int .u8 0, .int .u8 0, .int .i32 0, .string nm, .pointer (some ⟨p, 0, none⟩), .pointer none] 31)).alloc
        (.cells #[.pointer none, .pointer none, .pointer none, .int .u64 0] 105) := by
  go_enter Yba.func5, Yba.ntmps5
  go_wp2
  go_ret
  exact ⟨rfl, rfl⟩

theorem nine {P : Nat → Prop} (h : P 0 ∧ P 1 ∧ P 2 ∧ P 3 ∧ P 4 ∧ P 5 ∧ P 6 ∧ P 7 ∧ P 8) : ∀ i, i < 9 → P i := by
  intro i hi
  match i, hi with
  | 0, _ => exact h.1
  | 1, _ => exact h.2.1
  | 2, _ => exact h.2.2.1
  | 3, _ => exact h.2.2.2.1
  | 4, _ => exact h.2.2.2.2.1
  | 5, _ => exact h.2.2.2.2.2.1
  | 6, _ => exact h.2.2.2.2.2.2.1
  | 7, _ => exact h.2.2.2.2.2.2.2.1
  | 8, _ => exact h.2.2.2.2.2.2.2.2

/-- A new entry below p, of whichever make. -/
theorem leaf (p x : Nat) (nm : ByteArray) (b : Bool) (w : World) (hx : w.heap.size = x) :
    Calls Yba.prog 5 #[.pointer (some ⟨p, 0, none⟩), .string nm, .bool b] w fun e w' => e = .returned (.pointer (some ⟨x, 0, none⟩)) ∧
      ∃ t : Option Addr, t.isSome = b ∧ w'.rowIs x 31 9 (leafCell t nm p none) ∧ Below w.heap.size w w' := by
  subst hx
  cases b with
  | false =>
    refine (leaf_free p nm w).mono fun e w' ⟨he, hw⟩ => ⟨he, none, rfl, ?_, ?_⟩
    · rw [hw]
      exact World.rowIs_alloc w _ 31 _ (nine ⟨rfl, rfl, rfl, rfl, rfl, rfl, rfl, rfl, rfl⟩)
    · rw [hw]; exact (Below.refl _ _).alloc (Nat.le_refl _) _
  | true =>
    refine (leaf_busy p nm w).mono fun e w' ⟨he, hw⟩ => ⟨he, some ⟨w.heap.size + 1, 0, none⟩, rfl, ?_, ?_⟩
    · rw [hw]
      refine World.rowIs.alloc ?_ _
      exact World.rowIs_alloc w _ 31 _ (nine ⟨rfl, rfl, rfl, rfl, rfl, rfl, rfl, rfl, rfl⟩)
    · rw [hw]; exact ((Below.refl _ _).alloc (Nat.le_refl _) _).alloc (by simp) _
end Go.Proofs.Ybulkcmsy
