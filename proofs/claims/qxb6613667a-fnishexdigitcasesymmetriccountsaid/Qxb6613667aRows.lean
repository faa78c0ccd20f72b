/-
  No cell of these rows narrows 'for every input' (looked for: loops, veiled, ifaces, maps, wideKeys, modest, calm, conditions, laid).
  DERIVED. THE GIVEN ROWS OF THIS SEAT. 2 by the template 'for every input the law returns true; each argument reads behind the call as it read before'; 0 by the template 'total and deterministic' (their statements: Qxb6613667aTotals.lean).
  GIVEN WITH THE SEED: the statements are not yours to turn. If you find one false, say at which input.
  Laid BY PROGRAM, IN A SANDBOX (cutbox-rows.mjs): the forced cells as the released guide's own fill.sh prints them over the translation c0b5ee10e5f010f5… (all of the seat's roots in one cut). By AI agents, Wed Nov 11 2026. No macro, syntax, notation, axiom, sorry.
-/
import Derived.Test.Qxb6613667aChecked
import GoSem.Claim
import GoSem.ClaimJoined
import GoSem.ClaimMapViews
import Derived.JoinedTies
import Derived.KernelRfl
namespace Go.Proofs.Qxb6613667a
/- THE CELL 'sum', in the pinned program and in every row, IS THE sha256 OF THE DUMP (.gsa) THAT Qxb6613667aProg.lean LOADS. Nothing in Lean hashes anything: it is a label: what it is worth is what the hold of that sum in a sandbox is worth. -/
noncomputable def Try.pinned : Pinned := { name := "qxb6613667a", sum := "c0b5ee10e5f010f5dbb03e7672dc0c801ee67e334fe353fd1f04828bf45ace6d", checked := Try.checked }
namespace Rows
def none {H : Type} : Left H := { results := [], args := [] }

/-- 'zzlaws_internal_hexinput_b1.FnIsHexDigitMatchesEncoderAlphabet': WHATEVER THE INPUT: true; the input reads as it did. -/
def fnIsHexDigitMatchesEncoderAlphabetSpec : ChangeSpec := { name := "fnIsHexDigitMatchesEncoderAlphabet", fn := fun _ => fun
  | [d] => { results := [.lit (.bool true)], args := [d] }
  | _ => none }
def fnIsHexDigitMatchesEncoderAlphabetRow : OpenClaim := { program := "qxb6613667a", sum := "c0b5ee10e5f010f5dbb03e7672dc0c801ee67e334fe353fd1f04828bf45ace6d", func := "example.com/quorumseal/quorumseal/zzlaws_internal_hexinput_b1.FnIsHexDigitMatchesEncoderAlphabet", spec := "fnIsHexDigitMatchesEncoderAlphabet", apart := false }
def FnIsHexDigitMatchesEncoderAlphabetSaid : Prop := fnIsHexDigitMatchesEncoderAlphabetRow.holds Try.pinned (OpenSpec.ofChange fnIsHexDigitMatchesEncoderAlphabetSpec)

/-- ITS FALSE NEIGHBOUR: 'it returns false'. Refute it at one input. -/
def fnIsHexDigitMatchesEncoderAlphabetWrong : ChangeSpec := { name := "fnIsHexDigitMatchesEncoderAlphabet", fn := fun _ => fun
  | [d] => { results := [.lit (.bool false)], args := [d] }
  | _ => none }
def FnIsHexDigitMatchesEncoderAlphabetWrongFalsely : Prop := fnIsHexDigitMatchesEncoderAlphabetRow.holds Try.pinned (OpenSpec.ofChange fnIsHexDigitMatchesEncoderAlphabetWrong)

/-- 'zzlaws_internal_hexinput_b1.FnIsHexDigitCaseSymmetricCount': WHATEVER THE INPUT: true; the input reads as it did. -/
def fnIsHexDigitCaseSymmetricCountSpec : ChangeSpec := { name := "fnIsHexDigitCaseSymmetricCount", fn := fun _ => fun
  | [d] => { results := [.lit (.bool true)], args := [d] }
  | _ => none }
def fnIsHexDigitCaseSymmetricCountRow : OpenClaim := { program := "qxb6613667a", sum := "c0b5ee10e5f010f5dbb03e7672dc0c801ee67e334fe353fd1f04828bf45ace6d", func := "example.com/quorumseal/quorumseal/zzlaws_internal_hexinput_b1.FnIsHexDigitCaseSymmetricCount", spec := "fnIsHexDigitCaseSymmetricCount", apart := false }
def FnIsHexDigitCaseSymmetricCountSaid : Prop := fnIsHexDigitCaseSymmetricCountRow.holds Try.pinned (OpenSpec.ofChange fnIsHexDigitCaseSymmetricCountSpec)

/-- ITS FALSE NEIGHBOUR: 'it returns false'. Refute it at one input. -/
def fnIsHexDigitCaseSymmetricCountWrong : ChangeSpec := { name := "fnIsHexDigitCaseSymmetricCount", fn := fun _ => fun
  | [d] => { results := [.lit (.bool false)], args := [d] }
  | _ => none }
def FnIsHexDigitCaseSymmetricCountWrongFalsely : Prop := fnIsHexDigitCaseSymmetricCountRow.holds Try.pinned (OpenSpec.ofChange fnIsHexDigitCaseSymmetricCountWrong)

end Rows
end Go.Proofs.Qxb6613667a
