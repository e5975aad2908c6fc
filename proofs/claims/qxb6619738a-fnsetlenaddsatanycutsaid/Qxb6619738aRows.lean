/-
  No cell of these rows narrows 'for every input' (looked for: loops, veiled, ifaces, maps, wideKeys, modest, calm, conditions, laid).
  DERIVED. THE GIVEN ROWS OF THIS SEAT. 2 by the template 'for every input the law returns true; each argument reads behind the call as it read before'; 0 by the template 'total and deterministic' (their statements: Qxb6619738aTotals.lean).
  GIVEN WITH THE SEED: the statements are not yours to turn. If you find one false, say at which input.
  Laid BY PROGRAM, IN A SANDBOX (cutbox-rows.mjs): the forced cells as the released guide's own fill.sh prints them over the translation 0f540a85193efefd… (all of the seat's roots in one cut). By AI agents, Wed Nov 11 2026. No macro, syntax, notation, axiom, sorry.
-/
import Derived.Test.Qxb6619738aChecked
import GoSem.Claim
import GoSem.ClaimJoined
import GoSem.ClaimMapViews
import Derived.JoinedTies
import Derived.KernelRfl
namespace Go.Proofs.Qxb6619738a
/- THE CELL 'sum', in the pinned program and in every row, IS THE sha256 OF THE DUMP (.gsa) THAT Qxb6619738aProg.lean LOADS. Nothing in Lean hashes anything: it is a label: what it is worth is what the hold of that sum in a sandbox is worth. -/
noncomputable def Try.pinned : Pinned := { name := "qxb6619738a", sum := "0f540a85193efefdf11b0039a15c8a5adecfab00fbe36ac21f8485bd389eeb4b", checked := Try.checked }
namespace Rows
def none {H : Type} : Left H := { results := [], args := [] }

/-- 'zzlaws_internal_history_b1.FnSetLenAddsAtAnyCut': WHATEVER THE INPUT: true; the input reads as it did. -/
def fnSetLenAddsAtAnyCutSpec : ChangeSpec := { name := "fnSetLenAddsAtAnyCut", fn := fun _ => fun
  | [d1, d2, d3] => { results := [.lit (.bool true)], args := [d1, d2, d3] }
  | _ => none }
def fnSetLenAddsAtAnyCutRow : OpenClaim := { program := "qxb6619738a", sum := "0f540a85193efefdf11b0039a15c8a5adecfab00fbe36ac21f8485bd389eeb4b", func := "example.com/regentd/regentd/zzlaws_internal_history_b1.FnSetLenAddsAtAnyCut", spec := "fnSetLenAddsAtAnyCut", apart := false }
def FnSetLenAddsAtAnyCutSaid : Prop := fnSetLenAddsAtAnyCutRow.holds Try.pinned (OpenSpec.ofChange fnSetLenAddsAtAnyCutSpec)

/-- ITS FALSE NEIGHBOUR: 'it returns false'. Refute it at one input. -/
def fnSetLenAddsAtAnyCutWrong : ChangeSpec := { name := "fnSetLenAddsAtAnyCut", fn := fun _ => fun
  | [d1, d2, d3] => { results := [.lit (.bool false)], args := [d1, d2, d3] }
  | _ => none }
def FnSetLenAddsAtAnyCutWrongFalsely : Prop := fnSetLenAddsAtAnyCutRow.holds Try.pinned (OpenSpec.ofChange fnSetLenAddsAtAnyCutWrong)

/-- 'zzlaws_internal_history_b1.FnSetLenOnePlaceMoreAddsOne': WHATEVER THE INPUT: true; the input reads as it did. -/
def fnSetLenOnePlaceMoreAddsOneSpec : ChangeSpec := { name := "fnSetLenOnePlaceMoreAddsOne", fn := fun _ => fun
  | [d1, d2, d3, d4, d5] => { results := [.lit (.bool true)], args := [d1, d2, d3, d4, d5] }
  | _ => none }
def fnSetLenOnePlaceMoreAddsOneRow : OpenClaim := { program := "qxb6619738a", sum := "0f540a85193efefdf11b0039a15c8a5adecfab00fbe36ac21f8485bd389eeb4b", func := "example.com/regentd/regentd/zzlaws_internal_history_b1.FnSetLenOnePlaceMoreAddsOne", spec := "fnSetLenOnePlaceMoreAddsOne", apart := false }
def FnSetLenOnePlaceMoreAddsOneSaid : Prop := fnSetLenOnePlaceMoreAddsOneRow.holds Try.pinned (OpenSpec.ofChange fnSetLenOnePlaceMoreAddsOneSpec)

/-- ITS FALSE NEIGHBOUR: 'it returns false'. Refute it at one input. -/
def fnSetLenOnePlaceMoreAddsOneWrong : ChangeSpec := { name := "fnSetLenOnePlaceMoreAddsOne", fn := fun _ => fun
  | [d1, d2, d3, d4, d5] => { results := [.lit (.bool false)], args := [d1, d2, d3, d4, d5] }
  | _ => none }
def FnSetLenOnePlaceMoreAddsOneWrongFalsely : Prop := fnSetLenOnePlaceMoreAddsOneRow.holds Try.pinned (OpenSpec.ofChange fnSetLenOnePlaceMoreAddsOneWrong)

end Rows
end Go.Proofs.Qxb6619738a
