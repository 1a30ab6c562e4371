/-
  No cell of these rows narrows 'for every input' (looked for: loops, veiled, ifaces, maps, wideKeys, modest, calm, conditions, laid).
  DERIVED. THE GIVEN ROWS OF THIS SEAT. 2 by the template 'for every input the law returns true; each argument reads behind the call as it read before'; 0 by the template 'total and deterministic' (their statements: YbulkcmuaTotals.lean).
  GIVEN WITH THE SEED: the statements are not yours to turn. If you find one false, say at which input.
  Laid BY PROGRAM, IN A SANDBOX (cutbox-rows.mjs): the forced cells as the released guide's own fill.sh prints them over the translation 42deedc6adc73a2d… (all of the seat's roots in one cut). By AI agents, Wed Nov 11 2026. No macro, syntax, notation, axiom, sorry.
-/
import Derived.Test.YbulkcmuaChecked
import GoSem.Claim
import GoSem.ClaimJoined
import GoSem.ClaimMapViews
import Derived.JoinedTies
import Derived.KernelRfl
namespace Go.Proofs.Ybulkcmua
/- THE CELL 'sum', in the pinned program and in every row, IS THE sha256 OF THE DUMP (.gsa) THAT YbulkcmuaProg.lean LOADS. Nothing in Lean hashes anything: it is a label: what it is worth is what the hold of that sum in a sandbox is worth. -/
noncomputable def Yba.pinned : Pinned := { name := "ybulkcmua", sum := "42deedc6adc73a2d12366429f323642c24aedc7080c8809ec21f813d267df73d", checked := Yba.checked }
namespace Rows
def none {H : Type} : Left H := { results := [], args := [] }

/-- 'aliquot.LawS4433CArith': WHATEVER THE INPUT: true; the input reads as it did. -/
def lawS4433CArithSpec : ChangeSpec := { name := "lawS4433CArith", fn := fun _ => fun
  | [d1, d2, d3, d4, d5] => { results := [.lit (.bool true)], args := [d1, d2, d3, d4, d5] }
  | _ => none }
def lawS4433CArithRow : OpenClaim := { program := "ybulkcmua", sum := "42deedc6adc73a2d12366429f323642c24aedc7080c8809ec21f813d267df73d", func := "example.com/aliquot/aliquot.LawS4433CArith", spec := "lawS4433CArith", inPlace := ["math.Float64bits"], unfollowed := true, recurses := true, apart := false }
def LawS4433CArithSaid : Prop := lawS4433CArithRow.holds Yba.pinned (OpenSpec.ofChange lawS4433CArithSpec)

/-- ITS FALSE NEIGHBOUR: 'it returns false'. Refute it at one input. -/
def lawS4433CArithWrong : ChangeSpec := { name := "lawS4433CArith", fn := fun _ => fun
  | [d1, d2, d3, d4, d5] => { results := [.lit (.bool false)], args := [d1, d2, d3, d4, d5] }
  | _ => none }
def LawS4433CArithWrongFalsely : Prop := lawS4433CArithRow.holds Yba.pinned (OpenSpec.ofChange lawS4433CArithWrong)

/-- 'aliquot.LawS4433CCompare': WHATEVER THE INPUT: true; the input reads as it did. -/
def lawS4433CCompareSpec : ChangeSpec := { name := "lawS4433CCompare", fn := fun _ => fun
  | [d1, d2, d3, d4, d5, d6] => { results := [.lit (.bool true)], args := [d1, d2, d3, d4, d5, d6] }
  | _ => none }
def lawS4433CCompareRow : OpenClaim := { program := "ybulkcmua", sum := "42deedc6adc73a2d12366429f323642c24aedc7080c8809ec21f813d267df73d", func := "example.com/aliquot/aliquot.LawS4433CCompare", spec := "lawS4433CCompare", inPlace := ["math.Float64bits"], unfollowed := true, recurses := true, apart := false }
def LawS4433CCompareSaid : Prop := lawS4433CCompareRow.holds Yba.pinned (OpenSpec.ofChange lawS4433CCompareSpec)

/-- ITS FALSE NEIGHBOUR: 'it returns false'. Refute it at one input. -/
def lawS4433CCompareWrong : ChangeSpec := { name := "lawS4433CCompare", fn := fun _ => fun
  | [d1, d2, d3, d4, d5, d6] => { results := [.lit (.bool false)], args := [d1, d2, d3, d4, d5, d6] }
  | _ => none }
def LawS4433CCompareWrongFalsely : Prop := lawS4433CCompareRow.holds Yba.pinned (OpenSpec.ofChange lawS4433CCompareWrong)

end Rows
end Go.Proofs.Ybulkcmua
