/-
  No cell of these rows narrows 'for every input' (looked for: loops, veiled, ifaces, maps, wideKeys, modest, calm, conditions, laid).
  DERIVED. THE GIVEN ROWS OF THIS SEAT. 2 by the template 'for every input the law returns true; each argument reads behind the call as it read before'; 0 by the template 'total and deterministic' (their statements: Qxb6614291aTotals.lean).
  GIVEN WITH THE SEED: the statements are not yours to turn. If you find one false, say at which input.
  Laid BY PROGRAM, IN A SANDBOX (cutbox-rows.mjs): the forced cells as the released guide's own fill.sh prints them over the translation 9192576a0fcb9fad… (all of the seat's roots in one cut). By AI agents, Wed Nov 11 2026. No macro, syntax, notation, axiom, sorry.
-/
import Derived.Test.Qxb6614291aChecked
import GoSem.Claim
import GoSem.ClaimJoined
import GoSem.ClaimMapViews
import Derived.JoinedTies
import Derived.KernelRfl
namespace Go.Proofs.Qxb6614291a
/- THE CELL 'sum', in the pinned program and in every row, IS THE sha256 OF THE DUMP (.gsa) THAT Qxb6614291aProg.lean LOADS. Nothing in Lean hashes anything: it is a label: what it is worth is what the hold of that sum in a sandbox is worth. -/
noncomputable def Try.pinned : Pinned := { name := "qxb6614291a", sum := "9192576a0fcb9fada810c0c7ff10696e173a90d990aefe075a880acf5b74ace8", checked := Try.checked }
namespace Rows
def none {H : Type} : Left H := { results := [], args := [] }

/-- 'zzlaws_demoengine_b1.FnFailedTryFailsOnceThenPasses': WHATEVER THE INPUT: true; the input reads as it did. -/
def fnFailedTryFailsOnceThenPassesSpec : ChangeSpec := { name := "fnFailedTryFailsOnceThenPasses", fn := fun _ => fun
  | [d1, d2, d3, d4, d5, d6, d7, d8, d9] => { results := [.lit (.bool true)], args := [d1, d2, d3, d4, d5, d6, d7, d8, d9] }
  | _ => none }
def fnFailedTryFailsOnceThenPassesRow : OpenClaim := { program := "qxb6614291a", sum := "9192576a0fcb9fada810c0c7ff10696e173a90d990aefe075a880acf5b74ace8", func := "example.com/turn-game-host/turn-game-host/zzlaws_demoengine_b1.FnFailedTryFailsOnceThenPasses", spec := "fnFailedTryFailsOnceThenPasses", plainKeys := false, apart := false }
def FnFailedTryFailsOnceThenPassesSaid : Prop := fnFailedTryFailsOnceThenPassesRow.holds Try.pinned (OpenSpec.ofChange fnFailedTryFailsOnceThenPassesSpec)

/-- ITS FALSE NEIGHBOUR: 'it returns false'. Refute it at one input. -/
def fnFailedTryFailsOnceThenPassesWrong : ChangeSpec := { name := "fnFailedTryFailsOnceThenPasses", fn := fun _ => fun
  | [d1, d2, d3, d4, d5, d6, d7, d8, d9] => { results := [.lit (.bool false)], args := [d1, d2, d3, d4, d5, d6, d7, d8, d9] }
  | _ => none }
def FnFailedTryFailsOnceThenPassesWrongFalsely : Prop := fnFailedTryFailsOnceThenPassesRow.holds Try.pinned (OpenSpec.ofChange fnFailedTryFailsOnceThenPassesWrong)

/-- 'zzlaws_demoengine_b1.FnFailedTryFailsExactlyOnceOverATurnScript': WHATEVER THE INPUT: true; the input reads as it did. -/
def fnFailedTryFailsExactlyOnceOverATurnScriptSpec : ChangeSpec := { name := "fnFailedTryFailsExactlyOnceOverATurnScript", fn := fun _ => fun
  | [d1, d2, d3, d4] => { results := [.lit (.bool true)], args := [d1, d2, d3, d4] }
  | _ => none }
def fnFailedTryFailsExactlyOnceOverATurnScriptRow : OpenClaim := { program := "qxb6614291a", sum := "9192576a0fcb9fada810c0c7ff10696e173a90d990aefe075a880acf5b74ace8", func := "example.com/turn-game-host/turn-game-host/zzlaws_demoengine_b1.FnFailedTryFailsExactlyOnceOverATurnScript", spec := "fnFailedTryFailsExactlyOnceOverATurnScript", plainKeys := false, apart := false }
def FnFailedTryFailsExactlyOnceOverATurnScriptSaid : Prop := fnFailedTryFailsExactlyOnceOverATurnScriptRow.holds Try.pinned (OpenSpec.ofChange fnFailedTryFailsExactlyOnceOverATurnScriptSpec)

/-- ITS FALSE NEIGHBOUR: 'it returns false'. Refute it at one input. -/
def fnFailedTryFailsExactlyOnceOverATurnScriptWrong : ChangeSpec := { name := "fnFailedTryFailsExactlyOnceOverATurnScript", fn := fun _ => fun
  | [d1, d2, d3, d4] => { results := [.lit (.bool false)], args := [d1, d2, d3, d4] }
  | _ => none }
def FnFailedTryFailsExactlyOnceOverATurnScriptWrongFalsely : Prop := fnFailedTryFailsExactlyOnceOverATurnScriptRow.holds Try.pinned (OpenSpec.ofChange fnFailedTryFailsExactlyOnceOverATurnScriptWrong)

end Rows
end Go.Proofs.Qxb6614291a
