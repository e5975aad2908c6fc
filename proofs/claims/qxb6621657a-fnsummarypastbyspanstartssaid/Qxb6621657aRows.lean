/-
  NARROWER THAN 'FOR EVERY INPUT', by the rows' own cells (each row's printed sentence says how): FnNamesNumberOnAWellFormedTable: maps.
  DERIVED. THE GIVEN ROWS OF THIS SEAT. 3 by the template 'for every input the law returns true; each argument reads behind the call as it read before'; 0 by the template 'total and deterministic' (their statements: Qxb6621657aTotals.lean).
  GIVEN WITH THE SEED: the statements are not yours to turn. If you find one false, say at which input.
  Laid BY PROGRAM, IN A SANDBOX (cutbox-rows.mjs): the forced cells as the released guide's own fill.sh prints them over the translation 71740ac725274d20… (all of the seat's roots in one cut). By AI agents, Wed Nov 11 2026. No macro, syntax, notation, axiom, sorry.
-/
import Derived.Test.Qxb6621657aChecked
import GoSem.Claim
import GoSem.ClaimJoined
import GoSem.ClaimMapViews
import Derived.JoinedTies
import Derived.KernelRfl
namespace Go.Proofs.Qxb6621657a
/- THE CELL 'sum', in the pinned program and in every row, IS THE sha256 OF THE DUMP (.gsa) THAT Qxb6621657aProg.lean LOADS. Nothing in Lean hashes anything: it is a label: what it is worth is what the hold of that sum in a sandbox is worth. -/
noncomputable def Try.pinned : Pinned := { name := "qxb6621657a", sum := "71740ac725274d20d352b8451704ee84ad1384e8002de841a52dd7502659c0de", checked := Try.checked }
namespace Rows
def none {H : Type} : Left H := { results := [], args := [] }

/-- 'zzlaws_store_b1.FnNamesNumberByFirstMeeting': WHATEVER THE INPUT: true; the input reads as it did. -/
def fnNamesNumberByFirstMeetingSpec : ChangeSpec := { name := "fnNamesNumberByFirstMeeting", fn := fun _ => fun
  | [d1, d2] => { results := [.lit (.bool true)], args := [d1, d2] }
  | _ => none }
def fnNamesNumberByFirstMeetingRow : OpenClaim := { program := "qxb6621657a", sum := "71740ac725274d20d352b8451704ee84ad1384e8002de841a52dd7502659c0de", func := "example.com/moorline/moorline/zzlaws_store_b1.FnNamesNumberByFirstMeeting", spec := "fnNamesNumberByFirstMeeting", apart := false }
def FnNamesNumberByFirstMeetingSaid : Prop := fnNamesNumberByFirstMeetingRow.holds Try.pinned (OpenSpec.ofChange fnNamesNumberByFirstMeetingSpec)

/-- ITS FALSE NEIGHBOUR: 'it returns false'. Refute it at one input. -/
def fnNamesNumberByFirstMeetingWrong : ChangeSpec := { name := "fnNamesNumberByFirstMeeting", fn := fun _ => fun
  | [d1, d2] => { results := [.lit (.bool false)], args := [d1, d2] }
  | _ => none }
def FnNamesNumberByFirstMeetingWrongFalsely : Prop := fnNamesNumberByFirstMeetingRow.holds Try.pinned (OpenSpec.ofChange fnNamesNumberByFirstMeetingWrong)

/-- 'zzlaws_store_b1.FnNamesNumberOnAWellFormedTable': WHATEVER THE INPUT: true; the input reads as it did. -/
def fnNamesNumberOnAWellFormedTableSpec : ChangeSpec := { name := "fnNamesNumberOnAWellFormedTable", fn := fun _ => fun
  | [d1, d2, d3, d4] => { results := [.lit (.bool true)], args := [d1, d2, d3, d4] }
  | _ => none }
def fnNamesNumberOnAWellFormedTableRow : OpenClaim := { program := "qxb6621657a", sum := "71740ac725274d20d352b8451704ee84ad1384e8002de841a52dd7502659c0de", func := "example.com/moorline/moorline/zzlaws_store_b1.FnNamesNumberOnAWellFormedTable", spec := "fnNamesNumberOnAWellFormedTable", maps := true, apart := false }
def FnNamesNumberOnAWellFormedTableSaid : Prop := fnNamesNumberOnAWellFormedTableRow.holds Try.pinned (OpenSpec.ofChange fnNamesNumberOnAWellFormedTableSpec)

/-- ITS FALSE NEIGHBOUR: 'it returns false'. Refute it at one input. -/
def fnNamesNumberOnAWellFormedTableWrong : ChangeSpec := { name := "fnNamesNumberOnAWellFormedTable", fn := fun _ => fun
  | [d1, d2, d3, d4] => { results := [.lit (.bool false)], args := [d1, d2, d3, d4] }
  | _ => none }
def FnNamesNumberOnAWellFormedTableWrongFalsely : Prop := fnNamesNumberOnAWellFormedTableRow.holds Try.pinned (OpenSpec.ofChange fnNamesNumberOnAWellFormedTableWrong)

/-- 'zzlaws_store_b1.FnSummaryPastBySpanStarts': WHATEVER THE INPUT: true; the input reads as it did. -/
def fnSummaryPastBySpanStartsSpec : ChangeSpec := { name := "fnSummaryPastBySpanStarts", fn := fun _ => fun
  | [d1, d2, d3, d4] => { results := [.lit (.bool true)], args := [d1, d2, d3, d4] }
  | _ => none }
def fnSummaryPastBySpanStartsRow : OpenClaim := { program := "qxb6621657a", sum := "71740ac725274d20d352b8451704ee84ad1384e8002de841a52dd7502659c0de", func := "example.com/moorline/moorline/zzlaws_store_b1.FnSummaryPastBySpanStarts", spec := "fnSummaryPastBySpanStarts", apart := false }
def FnSummaryPastBySpanStartsSaid : Prop := fnSummaryPastBySpanStartsRow.holds Try.pinned (OpenSpec.ofChange fnSummaryPastBySpanStartsSpec)

/-- ITS FALSE NEIGHBOUR: 'it returns false'. Refute it at one input. -/
def fnSummaryPastBySpanStartsWrong : ChangeSpec := { name := "fnSummaryPastBySpanStarts", fn := fun _ => fun
  | [d1, d2, d3, d4] => { results := [.lit (.bool false)], args := [d1, d2, d3, d4] }
  | _ => none }
def FnSummaryPastBySpanStartsWrongFalsely : Prop := fnSummaryPastBySpanStartsRow.holds Try.pinned (OpenSpec.ofChange fnSummaryPastBySpanStartsWrong)

end Rows
end Go.Proofs.Qxb6621657a
