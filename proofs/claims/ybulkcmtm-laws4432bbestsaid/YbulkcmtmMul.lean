/- math/bits.Mul at (1, y). -/
import Derived.Test.YbulkcmtmRows
import Derived.WalkKit
import Derived.WalkSpells
import Derived.WalkLawsBesides
import Derived.Laws.BitsLemmas
import Derived.Laws.Bits64
namespace Go.Proofs.Ybulkcmtm
open Go.RowKit

theorem and32 (y : Nat) (hy : y < 4294967296) : bits .and .u64 (y : Int) 4294967295 = (y : Int) := by
  have h := bits_mask .u64 63 (by decide) (fun n h0 h1 => by rw [IntKind.wrap_u64]; omega) 32 (by decide) (y : Int) (by omega) (by omega)
  have e : ((2 : Int) ^ 32 - 1) = 4294967295 := by decide
  have e2 : ((2 : Int) ^ 32) = 4294967296 := by decide
  rw [e, e2] at h
  rw [h]
  omega

set_option maxRecDepth 100000 in
theorem mul30 (y : Nat) (hy : y < 100000) (w : World) :
    Calls Yba.prog 30 #[.int .u64 1, .int .u64 y] w fun e w' => e = .returned (.tuple #[.int .u64 0, .int .u64 y]) ∧ w' = w := by
  have b1 : bits .and .u64 1 4294967295 = 1 := by decide
  have b0 : bits .and .u64 0 4294967295 = 0 := by decide
  have b2 := and32 y (by omega)
  have d1 : (y : Int) / 4294967296 = 0 := by omega
  have hy1 : (y : Int) < 100000 := by omega
  go_enter Yba.func30, Yba.ntmps30
  go_wp2
  go_ret2
  exact ⟨rfl, rfl⟩

set_option maxRecDepth 100000 in
theorem mul26 (y : Nat) (hy : y < 100000) (w : World) :
    Calls Yba.prog 26 #[.int .u64 1, .int .u64 y] w fun e w' => e = .returned (.tuple #[.int .u64 0, .int .u64 y]) ∧ w' = w := by
  go_enter Yba.func26, Yba.ntmps26
  go_wp2_with (go_at_call 30; refine (mul30 y hy _).mono ?_; rintro e w' ⟨rfl, rfl⟩)
  go_ret2
  exact ⟨rfl, rfl⟩
end Go.Proofs.Ybulkcmtm
