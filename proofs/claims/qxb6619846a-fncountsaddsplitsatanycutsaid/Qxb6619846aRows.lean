/-
  No cell of these rows narrows 'for every input' (looked for: loops, veiled, ifaces, maps, wideKeys, modest, calm, conditions, laid).
  DERIVED. THE GIVEN ROWS OF THIS SEAT. 2 by the template 'for every input the law returns true; each argument reads behind the call as it read before'; 0 by the template 'total and deterministic' (their statements: Qxb6619846aTotals.lean).
  GIVEN WITH THE SEED: the statements are not yours to turn. If you find one false, say at which input.
  Laid BY PROGRAM, IN A SANDBOX (cutbox-rows.mjs): the forced cells as the released guide's own fill.sh prints them over the translation 5ec16a9688f3a921… (all of the seat's roots in one cut). By AI agents, Wed Nov 11 2026. No macro, syntax, notation, axiom, sorry.
-/
import Derived.Test.Qxb6619846aChecked
import GoSem.Claim
import GoSem.ClaimJoined
import GoSem.ClaimMapViews
import Derived.JoinedTies
import Derived.KernelRfl
namespace Go.Proofs.Qxb6619846a
/- THE CELL 'sum', in the pinned program and in every row, IS THE sha256 OF THE DUMP (.gsa) THAT Qxb6619846aProg.lean LOADS. Nothing in Lean hashes anything: it is a label: what it is worth is what the hold of that sum in a sandbox is worth. -/
noncomputable def Try.pinned : Pinned := { name := "qxb6619846a", sum := "5ec16a9688f3a9213ba29b28ca7212b3b833904504c22b142bda78383dfc10e7", checked := Try.checked }
namespace Rows
def none {H : Type} : Left H := { results := [], args := [] }

/-- 'zzlaws_internal_relay_b1.FnTruncateComposesAsLeastLimit': WHATEVER THE INPUT: true; the input reads as it did. -/
def fnTruncateComposesAsLeastLimitSpec : ChangeSpec := { name := "fnTruncateComposesAsLeastLimit", fn := fun _ => fun
  | [d1, d2, d3] => { results := [.lit (.bool true)], args := [d1, d2, d3] }
  | _ => none }
def fnTruncateComposesAsLeastLimitRow : OpenClaim := { program := "qxb6619846a", sum := "5ec16a9688f3a9213ba29b28ca7212b3b833904504c22b142bda78383dfc10e7", func := "example.com/dispatchbook/dispatchbook/zzlaws_internal_relay_b1.FnTruncateComposesAsLeastLimit", spec := "fnTruncateComposesAsLeastLimit", apart := false }
def FnTruncateComposesAsLeastLimitSaid : Prop := fnTruncateComposesAsLeastLimitRow.holds Try.pinned (OpenSpec.ofChange fnTruncateComposesAsLeastLimitSpec)

/-- ITS FALSE NEIGHBOUR: 'it returns false'. Refute it at one input. -/
def fnTruncateComposesAsLeastLimitWrong : ChangeSpec := { name := "fnTruncateComposesAsLeastLimit", fn := fun _ => fun
  | [d1, d2, d3] => { results := [.lit (.bool false)], args := [d1, d2, d3] }
  | _ => none }
def FnTruncateComposesAsLeastLimitWrongFalsely : Prop := fnTruncateComposesAsLeastLimitRow.holds Try.pinned (OpenSpec.ofChange fnTruncateComposesAsLeastLimitWrong)

/-- 'zzlaws_internal_relay_b1.FnCountsAddSplitsAtAnyCut': WHATEVER THE INPUT: true; the input reads as it did. -/
def fnCountsAddSplitsAtAnyCutSpec : ChangeSpec := { name := "fnCountsAddSplitsAtAnyCut", fn := fun _ => fun
  | [d1, d2, d3, d4, d5] => { results := [.lit (.bool true)], args := [d1, d2, d3, d4, d5] }
  | _ => none }
def fnCountsAddSplitsAtAnyCutRow : OpenClaim := { program := "qxb6619846a", sum := "5ec16a9688f3a9213ba29b28ca7212b3b833904504c22b142bda78383dfc10e7", func := "example.com/dispatchbook/dispatchbook/zzlaws_internal_relay_b1.FnCountsAddSplitsAtAnyCut", spec := "fnCountsAddSplitsAtAnyCut", apart := false }
def FnCountsAddSplitsAtAnyCutSaid : Prop := fnCountsAddSplitsAtAnyCutRow.holds Try.pinned (OpenSpec.ofChange fnCountsAddSplitsAtAnyCutSpec)

/-- ITS FALSE NEIGHBOUR: 'it returns false'. Refute it at one input. -/
def fnCountsAddSplitsAtAnyCutWrong : ChangeSpec := { name := "fnCountsAddSplitsAtAnyCut", fn := fun _ => fun
  | [d1, d2, d3, d4, d5] => { results := [.lit (.bool false)], args := [d1, d2, d3, d4, d5] }
  | _ => none }
def FnCountsAddSplitsAtAnyCutWrongFalsely : Prop := fnCountsAddSplitsAtAnyCutRow.holds Try.pinned (OpenSpec.ofChange fnCountsAddSplitsAtAnyCutWrong)

end Rows
end Go.Proofs.Qxb6619846a
