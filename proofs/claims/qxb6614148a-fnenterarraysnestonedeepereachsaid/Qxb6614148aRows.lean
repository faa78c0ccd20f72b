/-
  No cell of these rows narrows 'for every input' (looked for: loops, veiled, ifaces, maps, wideKeys, modest, calm, conditions, laid).
  DERIVED. THE GIVEN ROWS OF THIS SEAT. 2 by the template 'for every input the law returns true; each argument reads behind the call as it read before'; 0 by the template 'total and deterministic' (their statements: Qxb6614148aTotals.lean).
  GIVEN WITH THE SEED: the statements are not yours to turn. If you find one false, say at which input.
  Laid BY PROGRAM, IN A SANDBOX (cutbox-rows.mjs): the forced cells as the released guide's own fill.sh prints them over the translation a33b05f1e1b4d76e… (all of the seat's roots in one cut). By AI agents, Wed Nov 11 2026. No macro, syntax, notation, axiom, sorry.
-/
import Derived.Test.Qxb6614148aChecked
import GoSem.Claim
import GoSem.ClaimJoined
import GoSem.ClaimMapViews
import Derived.JoinedTies
import Derived.KernelRfl
namespace Go.Proofs.Qxb6614148a
/- THE CELL 'sum', in the pinned program and in every row, IS THE sha256 OF THE DUMP (.gsa) THAT Qxb6614148aProg.lean LOADS. Nothing in Lean hashes anything: it is a label: what it is worth is what the hold of that sum in a sandbox is worth. -/
noncomputable def Try.pinned : Pinned := { name := "qxb6614148a", sum := "a33b05f1e1b4d76e12864d8a27fb136bfd94e9408a941b87a707052c4ae3f7c0", checked := Try.checked }
namespace Rows
def none {H : Type} : Left H := { results := [], args := [] }

/-- 'zzlaws_pkg_ratebook_b1.FnEnterArraysNestOneDeeperEach': WHATEVER THE INPUT: true; the input reads as it did. -/
def fnEnterArraysNestOneDeeperEachSpec : ChangeSpec := { name := "fnEnterArraysNestOneDeeperEach", fn := fun _ => fun
  | [d1, d2, d3, d4, d5, d6, d7, d8, d9] => { results := [.lit (.bool true)], args := [d1, d2, d3, d4, d5, d6, d7, d8, d9] }
  | _ => none }
def fnEnterArraysNestOneDeeperEachRow : OpenClaim := { program := "qxb6614148a", sum := "a33b05f1e1b4d76e12864d8a27fb136bfd94e9408a941b87a707052c4ae3f7c0", func := "example.com/ratebook/ratebook/zzlaws_pkg_ratebook_b1.FnEnterArraysNestOneDeeperEach", spec := "fnEnterArraysNestOneDeeperEach", apart := false }
def FnEnterArraysNestOneDeeperEachSaid : Prop := fnEnterArraysNestOneDeeperEachRow.holds Try.pinned (OpenSpec.ofChange fnEnterArraysNestOneDeeperEachSpec)

/-- ITS FALSE NEIGHBOUR: 'it returns false'. Refute it at one input. -/
def fnEnterArraysNestOneDeeperEachWrong : ChangeSpec := { name := "fnEnterArraysNestOneDeeperEach", fn := fun _ => fun
  | [d1, d2, d3, d4, d5, d6, d7, d8, d9] => { results := [.lit (.bool false)], args := [d1, d2, d3, d4, d5, d6, d7, d8, d9] }
  | _ => none }
def FnEnterArraysNestOneDeeperEachWrongFalsely : Prop := fnEnterArraysNestOneDeeperEachRow.holds Try.pinned (OpenSpec.ofChange fnEnterArraysNestOneDeeperEachWrong)

/-- 'zzlaws_pkg_ratebook_b1.FnEnterInlineTablesKeysOneDeeperEach': WHATEVER THE INPUT: true; the input reads as it did. -/
def fnEnterInlineTablesKeysOneDeeperEachSpec : ChangeSpec := { name := "fnEnterInlineTablesKeysOneDeeperEach", fn := fun _ => fun
  | [d1, d2, d3, d4, d5, d6, d7, d8, d9] => { results := [.lit (.bool true)], args := [d1, d2, d3, d4, d5, d6, d7, d8, d9] }
  | _ => none }
def fnEnterInlineTablesKeysOneDeeperEachRow : OpenClaim := { program := "qxb6614148a", sum := "a33b05f1e1b4d76e12864d8a27fb136bfd94e9408a941b87a707052c4ae3f7c0", func := "example.com/ratebook/ratebook/zzlaws_pkg_ratebook_b1.FnEnterInlineTablesKeysOneDeeperEach", spec := "fnEnterInlineTablesKeysOneDeeperEach", apart := false }
def FnEnterInlineTablesKeysOneDeeperEachSaid : Prop := fnEnterInlineTablesKeysOneDeeperEachRow.holds Try.pinned (OpenSpec.ofChange fnEnterInlineTablesKeysOneDeeperEachSpec)

/-- ITS FALSE NEIGHBOUR: 'it returns false'. Refute it at one input. -/
def fnEnterInlineTablesKeysOneDeeperEachWrong : ChangeSpec := { name := "fnEnterInlineTablesKeysOneDeeperEach", fn := fun _ => fun
  | [d1, d2, d3, d4, d5, d6, d7, d8, d9] => { results := [.lit (.bool false)], args := [d1, d2, d3, d4, d5, d6, d7, d8, d9] }
  | _ => none }
def FnEnterInlineTablesKeysOneDeeperEachWrongFalsely : Prop := fnEnterInlineTablesKeysOneDeeperEachRow.holds Try.pinned (OpenSpec.ofChange fnEnterInlineTablesKeysOneDeeperEachWrong)

end Rows
end Go.Proofs.Qxb6614148a
