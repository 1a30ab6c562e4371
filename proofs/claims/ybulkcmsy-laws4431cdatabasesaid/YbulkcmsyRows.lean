/-
  No cell of these rows narrows 'for every input' (looked for: loops, veiled, ifaces, maps, wideKeys, modest, calm, conditions, laid).
  DERIVED. THE GIVEN ROWS OF THIS SEAT. 2 by the template 'for every input the law returns true; each argument reads behind the call as it read before'; 0 by the template 'total and deterministic' (their statements: YbulkcmsyTotals.lean).
  GIVEN WITH THE SEED: the statements are not yours to turn. If you find one false, say at which input.
  Laid BY PROGRAM, IN A SANDBOX (cutbox-rows.mjs): the forced cells as the released guide's own fill.sh prints them over the translation 2babcdd428380a9f… (all of the seat's roots in one cut). By AI agents, Wed Nov 11 2026. No macro, syntax, notation, axiom, sorry.
-/
import Derived.Test.YbulkcmsyChecked
import GoSem.Claim
import GoSem.ClaimJoined
import GoSem.ClaimMapViews
import Derived.JoinedTies
import Derived.KernelRfl
namespace Go.Proofs.Ybulkcmsy
/- THE CELL 'sum', in the pinned program and in every row, IS THE sha256 OF THE DUMP (.gsa) THAT YbulkcmsyProg.lean LOADS. Nothing in Lean hashes anything: it is a label: what it is worth is what the hold of that sum in a sandbox is worth. -/
noncomputable def Yba.pinned : Pinned := { name := "ybulkcmsy", sum := "2babcdd428380a9f9a2ca0c389083e8f74ce1f86d541ebfd2e81f8298d1ac6e6", checked := Yba.checked }
namespace Rows
def none {H : Type} : Left H := { results := [], args := [] }

/-- 'granulock.LawS4431CYields': WHATEVER THE INPUT: true; the input reads as it did. -/
def lawS4431CYieldsSpec : ChangeSpec := { name := "lawS4431CYields", fn := fun _ => fun
  | [d1, d2, d3, d4, d5] => { results := [.lit (.bool true)], args := [d1, d2, d3, d4, d5] }
  | _ => none }
def lawS4431CYieldsRow : OpenClaim := { program := "ybulkcmsy", sum := "2babcdd428380a9f9a2ca0c389083e8f74ce1f86d541ebfd2e81f8298d1ac6e6", func := "example.com/granulock/granulock.LawS4431CYields", spec := "lawS4431CYields", inPlace := ["sync/atomic.LoadPointer"], unfollowed := true, recurses := true, plainKeys := false, apart := false }
def LawS4431CYieldsSaid : Prop := lawS4431CYieldsRow.holds Yba.pinned (OpenSpec.ofChange lawS4431CYieldsSpec)

/-- ITS FALSE NEIGHBOUR: 'it returns false'. Refute it at one input. -/
def lawS4431CYieldsWrong : ChangeSpec := { name := "lawS4431CYields", fn := fun _ => fun
  | [d1, d2, d3, d4, d5] => { results := [.lit (.bool false)], args := [d1, d2, d3, d4, d5] }
  | _ => none }
def LawS4431CYieldsWrongFalsely : Prop := lawS4431CYieldsRow.holds Yba.pinned (OpenSpec.ofChange lawS4431CYieldsWrong)

/-- 'granulock.LawS4431CDatabase': WHATEVER THE INPUT: true; the input reads as it did. -/
def lawS4431CDatabaseSpec : ChangeSpec := { name := "lawS4431CDatabase", fn := fun _ => fun
  | [d1, d2] => { results := [.lit (.bool true)], args := [d1, d2] }
  | _ => none }
def lawS4431CDatabaseRow : OpenClaim := { program := "ybulkcmsy", sum := "2babcdd428380a9f9a2ca0c389083e8f74ce1f86d541ebfd2e81f8298d1ac6e6", func := "example.com/granulock/granulock.LawS4431CDatabase", spec := "lawS4431CDatabase", inPlace := ["sync/atomic.LoadPointer"], unfollowed := true, recurses := true, plainKeys := false, apart := false }
def LawS4431CDatabaseSaid : Prop := lawS4431CDatabaseRow.holds Yba.pinned (OpenSpec.ofChange lawS4431CDatabaseSpec)

/-- ITS FALSE NEIGHBOUR: 'it returns false'. Refute it at one input. -/
def lawS4431CDatabaseWrong : ChangeSpec := { name := "lawS4431CDatabase", fn := fun _ => fun
  | [d1, d2] => { results := [.lit (.bool false)], args := [d1, d2] }
  | _ => none }
def LawS4431CDatabaseWrongFalsely : Prop := lawS4431CDatabaseRow.holds Yba.pinned (OpenSpec.ofChange lawS4431CDatabaseWrong)

end Rows
end Go.Proofs.Ybulkcmsy
