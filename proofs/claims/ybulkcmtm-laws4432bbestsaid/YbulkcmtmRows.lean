/-
  No cell of these rows narrows 'for every input' (looked for: loops, veiled, ifaces, maps, wideKeys, modest, calm, conditions, laid).
  DERIVED. THE GIVEN ROWS OF THIS SEAT. 2 by the template 'for every input the law returns true; each argument reads behind the call as it read before'; 0 by the template 'total and deterministic' (their statements: YbulkcmtmTotals.lean).
  GIVEN WITH THE SEED: the statements are not yours to turn. If you find one false, say at which input.
  Laid BY PROGRAM, IN A SANDBOX (cutbox-rows.mjs): the forced cells as the released guide's own fill.sh prints them over the translation 49b3029167893d7f… (all of the seat's roots in one cut). By AI agents, Wed Nov 11 2026. No macro, syntax, notation, axiom, sorry.
-/
import Derived.Test.YbulkcmtmChecked
import GoSem.Claim
import GoSem.ClaimJoined
import GoSem.ClaimMapViews
import Derived.JoinedTies
import Derived.KernelRfl
namespace Go.Proofs.Ybulkcmtm
/- THE CELL 'sum', in the pinned program and in every row, IS THE sha256 OF THE DUMP (.gsa) THAT YbulkcmtmProg.lean LOADS. Nothing in Lean hashes anything: it is a label: what it is worth is what the hold of that sum in a sandbox is worth. -/
noncomputable def Yba.pinned : Pinned := { name := "ybulkcmtm", sum := "49b3029167893d7f4dbb5c695bd8acd42b7276673fee1ad5004bb2bbdfac4de4", checked := Yba.checked }
namespace Rows
def none {H : Type} : Left H := { results := [], args := [] }

/-- 'active.LawS4432BBest': WHATEVER THE INPUT: true; the input reads as it did. -/
def lawS4432BBestSpec : ChangeSpec := { name := "lawS4432BBest", fn := fun _ => fun
  | [d1, d2, d3, d4, d5, d6] => { results := [.lit (.bool true)], args := [d1, d2, d3, d4, d5, d6] }
  | _ => none }
def lawS4432BBestRow : OpenClaim := { program := "ybulkcmtm", sum := "49b3029167893d7f4dbb5c695bd8acd42b7276673fee1ad5004bb2bbdfac4de4", func := "example.com/grantlint/grantlint/active.LawS4432BBest", spec := "lawS4432BBest", unfollowed := true, recurses := true, apart := false }
def LawS4432BBestSaid : Prop := lawS4432BBestRow.holds Yba.pinned (OpenSpec.ofChange lawS4432BBestSpec)

/-- ITS FALSE NEIGHBOUR: 'it returns false'. Refute it at one input. -/
def lawS4432BBestWrong : ChangeSpec := { name := "lawS4432BBest", fn := fun _ => fun
  | [d1, d2, d3, d4, d5, d6] => { results := [.lit (.bool false)], args := [d1, d2, d3, d4, d5, d6] }
  | _ => none }
def LawS4432BBestWrongFalsely : Prop := lawS4432BBestRow.holds Yba.pinned (OpenSpec.ofChange lawS4432BBestWrong)

/-- 'active.LawS4432CLeave': WHATEVER THE INPUT: true; the input reads as it did. -/
def lawS4432CLeaveSpec : ChangeSpec := { name := "lawS4432CLeave", fn := fun _ => fun
  | [d] => { results := [.lit (.bool true)], args := [d] }
  | _ => none }
def lawS4432CLeaveRow : OpenClaim := { program := "ybulkcmtm", sum := "49b3029167893d7f4dbb5c695bd8acd42b7276673fee1ad5004bb2bbdfac4de4", func := "example.com/grantlint/grantlint/active.LawS4432CLeave", spec := "lawS4432CLeave", unfollowed := true, recurses := true, apart := false }
def LawS4432CLeaveSaid : Prop := lawS4432CLeaveRow.holds Yba.pinned (OpenSpec.ofChange lawS4432CLeaveSpec)

/-- ITS FALSE NEIGHBOUR: 'it returns false'. Refute it at one input. -/
def lawS4432CLeaveWrong : ChangeSpec := { name := "lawS4432CLeave", fn := fun _ => fun
  | [d] => { results := [.lit (.bool false)], args := [d] }
  | _ => none }
def LawS4432CLeaveWrongFalsely : Prop := lawS4432CLeaveRow.holds Yba.pinned (OpenSpec.ofChange lawS4432CLeaveWrong)

end Rows
end Go.Proofs.Ybulkcmtm
