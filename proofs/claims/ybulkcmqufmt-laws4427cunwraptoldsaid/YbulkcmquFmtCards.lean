/-
  DERIVED. GIVEN WITH THE SEED: THE CARDS: each row of YbulkcmquFmtRows.lean that lists a variable, with what it lists TIED to the program's text (the seventh form; the later family's looks); each row that meets fmt, with fmt's text TOLD by the authors' own Lean function (tested against real Go, not proved from fmt's source: count such statements apart). THE CARD IS WHAT COUNTS. Prove the row's statement (the work); the ties are given (YbulkcmquFmtTie.lean); close each card by the builder's one call (the guide's Derived/Test/ToyasCard.lean, 'card_holds'). Laid BY PROGRAM, IN A SANDBOX (cutbox-door.mjs). By AI agents, Wed Nov 11 2026. No macro, syntax, notation, axiom, sorry.
-/
import Derived.Test.YbulkcmquFmtRows
import GoSem.ClaimSeven
namespace Go.Proofs.YbulkcmquFmt
namespace Rows

/-- THE TOLD AND TIED CARD OF 'path-access-check.LawS4427ABuilt'. -/
def lawS4427ABuiltCard : Claim7 := { stood := { row := lawS4427ABuiltRow, standIns := [], harness := (true, "d7f175b82a308b0ce68e5ce42665b0f21fbaca579c49a3e57c7a525730af7c4a"), looks := true }, told := true, laidByText := true, laidKinds := [.wider], laidTests := true, laidLooks := .later, goes := false }
def LawS4427ABuiltToldSaid : Prop := Claim7.holds Ybaf.pinned (.plain (OpenSpec.ofChange lawS4427ABuiltSpec)) lawS4427ABuiltCard
/-- ITS FALSE NEIGHBOUR. Refute it at one input. -/
def LawS4427ABuiltToldWrongFalsely : Prop := Claim7.holds Ybaf.pinned (.plain (OpenSpec.ofChange lawS4427ABuiltWrong)) lawS4427ABuiltCard

/-- THE TOLD AND TIED CARD OF 'path-access-check.LawS4427ARaw'. -/
def lawS4427ARawCard : Claim7 := { stood := { row := lawS4427ARawRow, standIns := [], harness := (true, "d7f175b82a308b0ce68e5ce42665b0f21fbaca579c49a3e57c7a525730af7c4a"), looks := true }, told := true, laidByText := true, laidKinds := [.wider], laidTests := true, laidLooks := .later, goes := false }
def LawS4427ARawToldSaid : Prop := Claim7.holds Ybaf.pinned (.plain (OpenSpec.ofChange lawS4427ARawSpec)) lawS4427ARawCard
/-- ITS FALSE NEIGHBOUR. Refute it at one input. -/
def LawS4427ARawToldWrongFalsely : Prop := Claim7.holds Ybaf.pinned (.plain (OpenSpec.ofChange lawS4427ARawWrong)) lawS4427ARawCard

/-- THE TOLD CARD OF 'path-access-check.LawS4427CMessage'. -/
def lawS4427CMessageCard : Claim7 := { stood := { row := lawS4427CMessageRow, standIns := [], harness := (true, "d7f175b82a308b0ce68e5ce42665b0f21fbaca579c49a3e57c7a525730af7c4a"), looks := true }, told := true, goes := false }
def LawS4427CMessageToldSaid : Prop := Claim7.holds Ybaf.pinned (.plain (OpenSpec.ofChange lawS4427CMessageSpec)) lawS4427CMessageCard
/-- ITS FALSE NEIGHBOUR. Refute it at one input. -/
def LawS4427CMessageToldWrongFalsely : Prop := Claim7.holds Ybaf.pinned (.plain (OpenSpec.ofChange lawS4427CMessageWrong)) lawS4427CMessageCard

/-- THE TOLD CARD OF 'path-access-check.LawS4427CUnwrap'. -/
def lawS4427CUnwrapCard : Claim7 := { stood := { row := lawS4427CUnwrapRow, standIns := [], harness := (true, "d7f175b82a308b0ce68e5ce42665b0f21fbaca579c49a3e57c7a525730af7c4a"), looks := true }, told := true, goes := false }
def LawS4427CUnwrapToldSaid : Prop := Claim7.holds Ybaf.pinned (.plain (OpenSpec.ofChange lawS4427CUnwrapSpec)) lawS4427CUnwrapCard
/-- ITS FALSE NEIGHBOUR. Refute it at one input. -/
def LawS4427CUnwrapToldWrongFalsely : Prop := Claim7.holds Ybaf.pinned (.plain (OpenSpec.ofChange lawS4427CUnwrapWrong)) lawS4427CUnwrapCard
end Rows
end Go.Proofs.YbulkcmquFmt
