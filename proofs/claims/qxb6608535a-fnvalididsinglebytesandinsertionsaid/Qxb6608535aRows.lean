/-
  No cell of these rows narrows 'for every input' (looked for: loops, veiled, ifaces, maps, wideKeys, modest, calm, conditions, laid).
  DERIVED. THE GIVEN ROWS OF THIS SEAT. 2 by the template 'for every input the law returns true; each argument reads behind the call as it read before'; 0 by the template 'total and deterministic' (their statements: Qxb6608535aTotals.lean).
  GIVEN WITH THE SEED: the statements are not yours to turn. If you find one false, say at which input.
  Laid BY PROGRAM, IN A SANDBOX (cutbox-rows.mjs): the forced cells as the released guide's own fill.sh prints them over the translation 753a8b97002dc24b… (all of the seat's roots in one cut). By AI agents, Wed Nov 11 2026. No macro, syntax, notation, axiom, sorry.
-/
import Derived.Test.Qxb6608535aChecked
import GoSem.Claim
import GoSem.ClaimJoined
import GoSem.ClaimMapViews
import Derived.JoinedTies
import Derived.KernelRfl
namespace Go.Proofs.Qxb6608535a
/- THE CELL 'sum', in the pinned program and in every row, IS THE sha256 OF THE DUMP (.gsa) THAT Qxb6608535aProg.lean LOADS. Nothing in Lean hashes anything: it is a label: what it is worth is what the hold of that sum in a sandbox is worth. -/
noncomputable def Try.pinned : Pinned := { name := "qxb6608535a", sum := "753a8b97002dc24bc7eb86797e88058ea19a1ce9689d5a304fe870e7a618a08e", checked := Try.checked }
namespace Rows
def none {H : Type} : Left H := { results := [], args := [] }

/-- 'zzlaws_pkg_plan_b1.FnValidIDJoinsAndIsTheBareKeyAlphabet': WHATEVER THE INPUT: true; the input reads as it did. -/
def fnValidIDJoinsAndIsTheBareKeyAlphabetSpec : ChangeSpec := { name := "fnValidIDJoinsAndIsTheBareKeyAlphabet", fn := fun _ => fun
  | [d1, d2] => { results := [.lit (.bool true)], args := [d1, d2] }
  | _ => none }
def fnValidIDJoinsAndIsTheBareKeyAlphabetRow : OpenClaim := { program := "qxb6608535a", sum := "753a8b97002dc24bc7eb86797e88058ea19a1ce9689d5a304fe870e7a618a08e", func := "example.com/vestledger/vestledger/zzlaws_pkg_plan_b1.FnValidIDJoinsAndIsTheBareKeyAlphabet", spec := "fnValidIDJoinsAndIsTheBareKeyAlphabet", apart := false }
def FnValidIDJoinsAndIsTheBareKeyAlphabetSaid : Prop := fnValidIDJoinsAndIsTheBareKeyAlphabetRow.holds Try.pinned (OpenSpec.ofChange fnValidIDJoinsAndIsTheBareKeyAlphabetSpec)

/-- ITS FALSE NEIGHBOUR: 'it returns false'. Refute it at one input. -/
def fnValidIDJoinsAndIsTheBareKeyAlphabetWrong : ChangeSpec := { name := "fnValidIDJoinsAndIsTheBareKeyAlphabet", fn := fun _ => fun
  | [d1, d2] => { results := [.lit (.bool false)], args := [d1, d2] }
  | _ => none }
def FnValidIDJoinsAndIsTheBareKeyAlphabetWrongFalsely : Prop := fnValidIDJoinsAndIsTheBareKeyAlphabetRow.holds Try.pinned (OpenSpec.ofChange fnValidIDJoinsAndIsTheBareKeyAlphabetWrong)

/-- 'zzlaws_pkg_plan_b1.FnValidIDSingleBytesAndInsertion': WHATEVER THE INPUT: true; the input reads as it did. -/
def fnValidIDSingleBytesAndInsertionSpec : ChangeSpec := { name := "fnValidIDSingleBytesAndInsertion", fn := fun _ => fun
  | [d1, d2, d3] => { results := [.lit (.bool true)], args := [d1, d2, d3] }
  | _ => none }
def fnValidIDSingleBytesAndInsertionRow : OpenClaim := { program := "qxb6608535a", sum := "753a8b97002dc24bc7eb86797e88058ea19a1ce9689d5a304fe870e7a618a08e", func := "example.com/vestledger/vestledger/zzlaws_pkg_plan_b1.FnValidIDSingleBytesAndInsertion", spec := "fnValidIDSingleBytesAndInsertion", apart := false }
def FnValidIDSingleBytesAndInsertionSaid : Prop := fnValidIDSingleBytesAndInsertionRow.holds Try.pinned (OpenSpec.ofChange fnValidIDSingleBytesAndInsertionSpec)

/-- ITS FALSE NEIGHBOUR: 'it returns false'. Refute it at one input. -/
def fnValidIDSingleBytesAndInsertionWrong : ChangeSpec := { name := "fnValidIDSingleBytesAndInsertion", fn := fun _ => fun
  | [d1, d2, d3] => { results := [.lit (.bool false)], args := [d1, d2, d3] }
  | _ => none }
def FnValidIDSingleBytesAndInsertionWrongFalsely : Prop := fnValidIDSingleBytesAndInsertionRow.holds Try.pinned (OpenSpec.ofChange fnValidIDSingleBytesAndInsertionWrong)

end Rows
end Go.Proofs.Qxb6608535a
