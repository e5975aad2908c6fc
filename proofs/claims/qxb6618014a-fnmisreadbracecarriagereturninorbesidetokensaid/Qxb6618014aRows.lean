/-
  No cell of these rows narrows 'for every input' (looked for: loops, veiled, ifaces, maps, wideKeys, modest, calm, conditions, laid).
  DERIVED. THE GIVEN ROWS OF THIS SEAT. 3 by the template 'for every input the law returns true; each argument reads behind the call as it read before'; 0 by the template 'total and deterministic' (their statements: Qxb6618014aTotals.lean).
  GIVEN WITH THE SEED: the statements are not yours to turn. If you find one false, say at which input.
  Laid BY PROGRAM, IN A SANDBOX (cutbox-rows.mjs): the forced cells as the released guide's own fill.sh prints them over the translation 4d64921d00dd1777… (all of the seat's roots in one cut). By AI agents, Wed Nov 11 2026. No macro, syntax, notation, axiom, sorry.
-/
import Derived.Test.Qxb6618014aChecked
import GoSem.Claim
import GoSem.ClaimJoined
import GoSem.ClaimMapViews
import Derived.JoinedTies
import Derived.KernelRfl
namespace Go.Proofs.Qxb6618014a
/- THE CELL 'sum', in the pinned program and in every row, IS THE sha256 OF THE DUMP (.gsa) THAT Qxb6618014aProg.lean LOADS. Nothing in Lean hashes anything: it is a label: what it is worth is what the hold of that sum in a sandbox is worth. -/
noncomputable def Try.pinned : Pinned := { name := "qxb6618014a", sum := "4d64921d00dd1777166a1c5e856ba7ac301c8b585e75c2ec084a5449e14ead73", checked := Try.checked }
namespace Rows
def none {H : Type} : Left H := { results := [], args := [] }

/-- 'zzlaws_profile_b1.FnMisreadBraceCarriageReturnInOrBesideToken': WHATEVER THE INPUT: true; the input reads as it did. -/
def fnMisreadBraceCarriageReturnInOrBesideTokenSpec : ChangeSpec := { name := "fnMisreadBraceCarriageReturnInOrBesideToken", fn := fun _ => fun
  | [d1, d2, d3, d4, d5, d6, d7, d8] => { results := [.lit (.bool true)], args := [d1, d2, d3, d4, d5, d6, d7, d8] }
  | _ => none }
def fnMisreadBraceCarriageReturnInOrBesideTokenRow : OpenClaim := { program := "qxb6618014a", sum := "4d64921d00dd1777166a1c5e856ba7ac301c8b585e75c2ec084a5449e14ead73", func := "example.com/recoli/recoli/zzlaws_profile_b1.FnMisreadBraceCarriageReturnInOrBesideToken", spec := "fnMisreadBraceCarriageReturnInOrBesideToken", apart := false }
def FnMisreadBraceCarriageReturnInOrBesideTokenSaid : Prop := fnMisreadBraceCarriageReturnInOrBesideTokenRow.holds Try.pinned (OpenSpec.ofChange fnMisreadBraceCarriageReturnInOrBesideTokenSpec)

/-- ITS FALSE NEIGHBOUR: 'it returns false'. Refute it at one input. -/
def fnMisreadBraceCarriageReturnInOrBesideTokenWrong : ChangeSpec := { name := "fnMisreadBraceCarriageReturnInOrBesideToken", fn := fun _ => fun
  | [d1, d2, d3, d4, d5, d6, d7, d8] => { results := [.lit (.bool false)], args := [d1, d2, d3, d4, d5, d6, d7, d8] }
  | _ => none }
def FnMisreadBraceCarriageReturnInOrBesideTokenWrongFalsely : Prop := fnMisreadBraceCarriageReturnInOrBesideTokenRow.holds Try.pinned (OpenSpec.ofChange fnMisreadBraceCarriageReturnInOrBesideTokenWrong)

/-- 'zzlaws_profile_b1.FnMostRecordsMatchesLineModel': WHATEVER THE INPUT: true; the input reads as it did. -/
def fnMostRecordsMatchesLineModelSpec : ChangeSpec := { name := "fnMostRecordsMatchesLineModel", fn := fun _ => fun
  | [d] => { results := [.lit (.bool true)], args := [d] }
  | _ => none }
def fnMostRecordsMatchesLineModelRow : OpenClaim := { program := "qxb6618014a", sum := "4d64921d00dd1777166a1c5e856ba7ac301c8b585e75c2ec084a5449e14ead73", func := "example.com/recoli/recoli/zzlaws_profile_b1.FnMostRecordsMatchesLineModel", spec := "fnMostRecordsMatchesLineModel", inPlace := ["internal/bytealg.IndexByteString"], apart := false }
def FnMostRecordsMatchesLineModelSaid : Prop := fnMostRecordsMatchesLineModelRow.holds Try.pinned (OpenSpec.ofChange fnMostRecordsMatchesLineModelSpec)

/-- ITS FALSE NEIGHBOUR: 'it returns false'. Refute it at one input. -/
def fnMostRecordsMatchesLineModelWrong : ChangeSpec := { name := "fnMostRecordsMatchesLineModel", fn := fun _ => fun
  | [d] => { results := [.lit (.bool false)], args := [d] }
  | _ => none }
def FnMostRecordsMatchesLineModelWrongFalsely : Prop := fnMostRecordsMatchesLineModelRow.holds Try.pinned (OpenSpec.ofChange fnMostRecordsMatchesLineModelWrong)

/-- 'zzlaws_profile_b1.FnMostRecordsAddsLineByLine': WHATEVER THE INPUT: true; the input reads as it did. -/
def fnMostRecordsAddsLineByLineSpec : ChangeSpec := { name := "fnMostRecordsAddsLineByLine", fn := fun _ => fun
  | [d1, d2] => { results := [.lit (.bool true)], args := [d1, d2] }
  | _ => none }
def fnMostRecordsAddsLineByLineRow : OpenClaim := { program := "qxb6618014a", sum := "4d64921d00dd1777166a1c5e856ba7ac301c8b585e75c2ec084a5449e14ead73", func := "example.com/recoli/recoli/zzlaws_profile_b1.FnMostRecordsAddsLineByLine", spec := "fnMostRecordsAddsLineByLine", inPlace := ["internal/bytealg.IndexByteString"], apart := false }
def FnMostRecordsAddsLineByLineSaid : Prop := fnMostRecordsAddsLineByLineRow.holds Try.pinned (OpenSpec.ofChange fnMostRecordsAddsLineByLineSpec)

/-- ITS FALSE NEIGHBOUR: 'it returns false'. Refute it at one input. -/
def fnMostRecordsAddsLineByLineWrong : ChangeSpec := { name := "fnMostRecordsAddsLineByLine", fn := fun _ => fun
  | [d1, d2] => { results := [.lit (.bool false)], args := [d1, d2] }
  | _ => none }
def FnMostRecordsAddsLineByLineWrongFalsely : Prop := fnMostRecordsAddsLineByLineRow.holds Try.pinned (OpenSpec.ofChange fnMostRecordsAddsLineByLineWrong)

end Rows
end Go.Proofs.Qxb6618014a
