/-
  No cell of these rows narrows 'for every input' (looked for: loops, veiled, ifaces, maps, wideKeys, modest, calm, conditions, laid).
  DERIVED. THE GIVEN ROWS OF THIS SEAT. 3 by the template 'for every input the law returns true; each argument reads behind the call as it read before'; 0 by the template 'total and deterministic' (their statements: Qxb6613626aTotals.lean).
  GIVEN WITH THE SEED: the statements are not yours to turn. If you find one false, say at which input.
  Laid BY PROGRAM, IN A SANDBOX (cutbox-rows.mjs): the forced cells as the released guide's own fill.sh prints them over the translation e3df7e0fbcb317d9… (all of the seat's roots in one cut). By AI agents, Wed Nov 11 2026. No macro, syntax, notation, axiom, sorry.
-/
import Derived.Test.Qxb6613626aChecked
import GoSem.Claim
import GoSem.ClaimJoined
import GoSem.ClaimMapViews
import Derived.JoinedTies
import Derived.KernelRfl
namespace Go.Proofs.Qxb6613626a
/- THE CELL 'sum', in the pinned program and in every row, IS THE sha256 OF THE DUMP (.gsa) THAT Qxb6613626aProg.lean LOADS. Nothing in Lean hashes anything: it is a label: what it is worth is what the hold of that sum in a sandbox is worth. -/
noncomputable def Try.pinned : Pinned := { name := "qxb6613626a", sum := "e3df7e0fbcb317d92c194edeaa080034b9861d13c277ad3eae40fcd1cdc93918", checked := Try.checked }
namespace Rows
def none {H : Type} : Left H := { results := [], args := [] }

/-- 'zzlaws_root_b1.FnDefaultKeyAgreesWithPrimaryKey': WHATEVER THE INPUT: true; the input reads as it did. -/
def fnDefaultKeyAgreesWithPrimaryKeySpec : ChangeSpec := { name := "fnDefaultKeyAgreesWithPrimaryKey", fn := fun _ => fun
  | [d1, d2, d3] => { results := [.lit (.bool true)], args := [d1, d2, d3] }
  | _ => none }
def fnDefaultKeyAgreesWithPrimaryKeyRow : OpenClaim := { program := "qxb6613626a", sum := "e3df7e0fbcb317d92c194edeaa080034b9861d13c277ad3eae40fcd1cdc93918", func := "example.com/alterlens/alterlens/zzlaws_root_b1.FnDefaultKeyAgreesWithPrimaryKey", spec := "fnDefaultKeyAgreesWithPrimaryKey", unfollowed := true, recurses := true, apart := false }
def FnDefaultKeyAgreesWithPrimaryKeySaid : Prop := fnDefaultKeyAgreesWithPrimaryKeyRow.holds Try.pinned (OpenSpec.ofChange fnDefaultKeyAgreesWithPrimaryKeySpec)

/-- ITS FALSE NEIGHBOUR: 'it returns false'. Refute it at one input. -/
def fnDefaultKeyAgreesWithPrimaryKeyWrong : ChangeSpec := { name := "fnDefaultKeyAgreesWithPrimaryKey", fn := fun _ => fun
  | [d1, d2, d3] => { results := [.lit (.bool false)], args := [d1, d2, d3] }
  | _ => none }
def FnDefaultKeyAgreesWithPrimaryKeyWrongFalsely : Prop := fnDefaultKeyAgreesWithPrimaryKeyRow.holds Try.pinned (OpenSpec.ofChange fnDefaultKeyAgreesWithPrimaryKeyWrong)

/-- 'zzlaws_root_b1.FnPrimaryKeyByIdentity': WHATEVER THE INPUT: true; the input reads as it did. -/
def fnPrimaryKeyByIdentitySpec : ChangeSpec := { name := "fnPrimaryKeyByIdentity", fn := fun _ => fun
  | [d1, d2, d3, d4] => { results := [.lit (.bool true)], args := [d1, d2, d3, d4] }
  | _ => none }
def fnPrimaryKeyByIdentityRow : OpenClaim := { program := "qxb6613626a", sum := "e3df7e0fbcb317d92c194edeaa080034b9861d13c277ad3eae40fcd1cdc93918", func := "example.com/alterlens/alterlens/zzlaws_root_b1.FnPrimaryKeyByIdentity", spec := "fnPrimaryKeyByIdentity", apart := false }
def FnPrimaryKeyByIdentitySaid : Prop := fnPrimaryKeyByIdentityRow.holds Try.pinned (OpenSpec.ofChange fnPrimaryKeyByIdentitySpec)

/-- ITS FALSE NEIGHBOUR: 'it returns false'. Refute it at one input. -/
def fnPrimaryKeyByIdentityWrong : ChangeSpec := { name := "fnPrimaryKeyByIdentity", fn := fun _ => fun
  | [d1, d2, d3, d4] => { results := [.lit (.bool false)], args := [d1, d2, d3, d4] }
  | _ => none }
def FnPrimaryKeyByIdentityWrongFalsely : Prop := fnPrimaryKeyByIdentityRow.holds Try.pinned (OpenSpec.ofChange fnPrimaryKeyByIdentityWrong)

/-- 'zzlaws_root_b1.FnDependentObjectsFollowCatalog': WHATEVER THE INPUT: true; the input reads as it did. -/
def fnDependentObjectsFollowCatalogSpec : ChangeSpec := { name := "fnDependentObjectsFollowCatalog", fn := fun _ => fun
  | [d1, d2, d3, d4, d5] => { results := [.lit (.bool true)], args := [d1, d2, d3, d4, d5] }
  | _ => none }
def fnDependentObjectsFollowCatalogRow : OpenClaim := { program := "qxb6613626a", sum := "e3df7e0fbcb317d92c194edeaa080034b9861d13c277ad3eae40fcd1cdc93918", func := "example.com/alterlens/alterlens/zzlaws_root_b1.FnDependentObjectsFollowCatalog", spec := "fnDependentObjectsFollowCatalog", unfollowed := true, recurses := true, apart := false }
def FnDependentObjectsFollowCatalogSaid : Prop := fnDependentObjectsFollowCatalogRow.holds Try.pinned (OpenSpec.ofChange fnDependentObjectsFollowCatalogSpec)

/-- ITS FALSE NEIGHBOUR: 'it returns false'. Refute it at one input. -/
def fnDependentObjectsFollowCatalogWrong : ChangeSpec := { name := "fnDependentObjectsFollowCatalog", fn := fun _ => fun
  | [d1, d2, d3, d4, d5] => { results := [.lit (.bool false)], args := [d1, d2, d3, d4, d5] }
  | _ => none }
def FnDependentObjectsFollowCatalogWrongFalsely : Prop := fnDependentObjectsFollowCatalogRow.holds Try.pinned (OpenSpec.ofChange fnDependentObjectsFollowCatalogWrong)

end Rows
end Go.Proofs.Qxb6613626a
