/-
  NARROWER THAN 'FOR EVERY INPUT', by the rows' own cells (each row's printed sentence says how): LawS4427ABuilt: laid · LawS4427ARaw: laid.
  DERIVED. THE GIVEN ROWS OF THIS SEAT. 4 by the template 'for every input the law returns true; each argument reads behind the call as it read before'; 0 by the template 'total and deterministic' (their statements: YbulkcmquFmtTotals.lean).
  GIVEN WITH THE SEED: the statements are not yours to turn. If you find one false, say at which input.
  Laid BY PROGRAM, IN A SANDBOX (cutbox-rows.mjs): the forced cells as the released guide's own fill.sh prints them over the translation a8fccdcbccb5cd89… (all of the seat's roots in one cut). By AI agents, Wed Nov 11 2026. No macro, syntax, notation, axiom, sorry.
-/
import Derived.Test.YbulkcmquFmtChecked
import GoSem.Claim
import GoSem.ClaimJoined
import GoSem.ClaimMapViews
import Derived.JoinedTies
import Derived.KernelRfl
namespace Go.Proofs.YbulkcmquFmt
/- THE CELL 'sum', in the pinned program and in every row, IS THE sha256 OF THE DUMP (.gsa) THAT YbulkcmquFmtProg.lean LOADS. Nothing in Lean hashes anything: it is a label: what it is worth is what the hold of that sum in a sandbox is worth. -/
noncomputable def Ybaf.pinned : Pinned := { name := "ybulkcmqufmt", sum := "a8fccdcbccb5cd8998cb4c97f17ca7bba127c343c257ef45a8ffba38ed0e336f", checked := Ybaf.checked }
namespace Rows
def none {H : Type} : Left H := { results := [], args := [] }

/- WHAT THE LISTED PACKAGE-LEVEL VARIABLES READ AS WHEN THE CALL BEGINS. Each datum BY PROGRAM (the guide's laid-datum.mjs) off the statement by which the dump's own 'gosem.cut.vars' lays the variable. In a bare row this is a premise. The card (YbulkcmquFmtCards.lean) ties it to the program's text. -/
def laid_example_com_path_access_check_path_access_check_permLetters {H : Type} : DataW H := .agg [.agg [.lit (.int .u8 4), .lit (.int .u8 114)], .agg [.lit (.int .u8 2), .lit (.int .u8 119)], .agg [.lit (.int .u8 1), .lit (.int .u8 120)]]

/-- 'path-access-check.LawS4427ABuilt': WHATEVER THE INPUT: true; the input reads as it did. -/
def lawS4427ABuiltSpec : ChangeSpec := { name := "lawS4427ABuilt", vars := ["example.com/path-access-check/path-access-check.permLetters"], fn := fun _ => fun
  | [d1, d2, g1] => { results := [.lit (.bool true)], args := [d1, d2], vars := [g1] }
  | _ => none }
def lawS4427ABuiltRow : OpenClaim := { program := "ybulkcmqufmt", sum := "a8fccdcbccb5cd8998cb4c97f17ca7bba127c343c257ef45a8ffba38ed0e336f", func := "example.com/path-access-check/path-access-check.LawS4427ABuilt", spec := "lawS4427ABuilt", stops := ["fmt.Sprintf", "fmt.errorf"], inPlace := ["fmt.errorf"], named := ["example.com/path-access-check/path-access-check.permLetters"], apart := false, laid := [("example.com/path-access-check/path-access-check.permLetters", laid_example_com_path_access_check_path_access_check_permLetters)] }
/-- NO THEOREM (fmt's text is open here; it may be false): for the released tool's asking of the row's closed facts alone. THE STATEMENT IS 'LawS4427ABuiltToldSaid' (YbulkcmquFmtCards.lean). -/
def LawS4427ABuiltFormAsk : Prop := lawS4427ABuiltRow.holds Ybaf.pinned (OpenSpec.ofChange lawS4427ABuiltSpec)

/-- ITS FALSE NEIGHBOUR: 'it returns false'. Refute it at one input. -/
def lawS4427ABuiltWrong : ChangeSpec := { name := "lawS4427ABuilt", vars := ["example.com/path-access-check/path-access-check.permLetters"], fn := fun _ => fun
  | [d1, d2, g1] => { results := [.lit (.bool false)], args := [d1, d2], vars := [g1] }
  | _ => none }
def LawS4427ABuiltWrongFormAsk : Prop := lawS4427ABuiltRow.holds Ybaf.pinned (OpenSpec.ofChange lawS4427ABuiltWrong)

/-- 'path-access-check.LawS4427ARaw': WHATEVER THE INPUT: true; the input reads as it did. -/
def lawS4427ARawSpec : ChangeSpec := { name := "lawS4427ARaw", vars := ["example.com/path-access-check/path-access-check.permLetters"], fn := fun _ => fun
  | [d, g1] => { results := [.lit (.bool true)], args := [d], vars := [g1] }
  | _ => none }
def lawS4427ARawRow : OpenClaim := { program := "ybulkcmqufmt", sum := "a8fccdcbccb5cd8998cb4c97f17ca7bba127c343c257ef45a8ffba38ed0e336f", func := "example.com/path-access-check/path-access-check.LawS4427ARaw", spec := "lawS4427ARaw", stops := ["fmt.Sprintf", "fmt.errorf"], inPlace := ["fmt.errorf"], named := ["example.com/path-access-check/path-access-check.permLetters"], apart := false, laid := [("example.com/path-access-check/path-access-check.permLetters", laid_example_com_path_access_check_path_access_check_permLetters)] }
/-- NO THEOREM (fmt's text is open here; it may be false): for the released tool's asking of the row's closed facts alone. THE STATEMENT IS 'LawS4427ARawToldSaid' (YbulkcmquFmtCards.lean). -/
def LawS4427ARawFormAsk : Prop := lawS4427ARawRow.holds Ybaf.pinned (OpenSpec.ofChange lawS4427ARawSpec)

/-- ITS FALSE NEIGHBOUR: 'it returns false'. Refute it at one input. -/
def lawS4427ARawWrong : ChangeSpec := { name := "lawS4427ARaw", vars := ["example.com/path-access-check/path-access-check.permLetters"], fn := fun _ => fun
  | [d, g1] => { results := [.lit (.bool false)], args := [d], vars := [g1] }
  | _ => none }
def LawS4427ARawWrongFormAsk : Prop := lawS4427ARawRow.holds Ybaf.pinned (OpenSpec.ofChange lawS4427ARawWrong)

/-- 'path-access-check.LawS4427CMessage': WHATEVER THE INPUT: true; the input reads as it did. -/
def lawS4427CMessageSpec : ChangeSpec := { name := "lawS4427CMessage", fn := fun _ => fun
  | [d] => { results := [.lit (.bool true)], args := [d] }
  | _ => none }
def lawS4427CMessageRow : OpenClaim := { program := "ybulkcmqufmt", sum := "a8fccdcbccb5cd8998cb4c97f17ca7bba127c343c257ef45a8ffba38ed0e336f", func := "example.com/path-access-check/path-access-check.LawS4427CMessage", spec := "lawS4427CMessage", stops := ["fmt.Sprintf", "fmt.errorf"], inPlace := ["fmt.Sprintf"], unfollowed := true, recurses := true, apart := false }
/-- NO THEOREM (fmt's text is open here; it may be false): for the released tool's asking of the row's closed facts alone. THE STATEMENT IS 'LawS4427CMessageToldSaid' (YbulkcmquFmtCards.lean). -/
def LawS4427CMessageFormAsk : Prop := lawS4427CMessageRow.holds Ybaf.pinned (OpenSpec.ofChange lawS4427CMessageSpec)

/-- ITS FALSE NEIGHBOUR: 'it returns false'. Refute it at one input. -/
def lawS4427CMessageWrong : ChangeSpec := { name := "lawS4427CMessage", fn := fun _ => fun
  | [d] => { results := [.lit (.bool false)], args := [d] }
  | _ => none }
def LawS4427CMessageWrongFormAsk : Prop := lawS4427CMessageRow.holds Ybaf.pinned (OpenSpec.ofChange lawS4427CMessageWrong)

/-- 'path-access-check.LawS4427CUnwrap': WHATEVER THE INPUT: true; the input reads as it did. -/
def lawS4427CUnwrapSpec : ChangeSpec := { name := "lawS4427CUnwrap", fn := fun _ => fun
  | [d] => { results := [.lit (.bool true)], args := [d] }
  | _ => none }
def lawS4427CUnwrapRow : OpenClaim := { program := "ybulkcmqufmt", sum := "a8fccdcbccb5cd8998cb4c97f17ca7bba127c343c257ef45a8ffba38ed0e336f", func := "example.com/path-access-check/path-access-check.LawS4427CUnwrap", spec := "lawS4427CUnwrap", stops := ["fmt.Sprintf", "fmt.errorf"], inPlace := ["fmt.Sprintf"], unfollowed := true, recurses := true, apart := false }
/-- NO THEOREM (fmt's text is open here; it may be false): for the released tool's asking of the row's closed facts alone. THE STATEMENT IS 'LawS4427CUnwrapToldSaid' (YbulkcmquFmtCards.lean). -/
def LawS4427CUnwrapFormAsk : Prop := lawS4427CUnwrapRow.holds Ybaf.pinned (OpenSpec.ofChange lawS4427CUnwrapSpec)

/-- ITS FALSE NEIGHBOUR: 'it returns false'. Refute it at one input. -/
def lawS4427CUnwrapWrong : ChangeSpec := { name := "lawS4427CUnwrap", fn := fun _ => fun
  | [d] => { results := [.lit (.bool false)], args := [d] }
  | _ => none }
def LawS4427CUnwrapWrongFormAsk : Prop := lawS4427CUnwrapRow.holds Ybaf.pinned (OpenSpec.ofChange lawS4427CUnwrapWrong)

end Rows
end Go.Proofs.YbulkcmquFmt
