/-
  No cell of these rows narrows 'for every input' (looked for: loops, veiled, ifaces, maps, wideKeys, modest, calm, conditions, laid).
  DERIVED. THE GIVEN ROWS OF THIS SEAT. 2 by the template 'for every input the law returns true; each argument reads behind the call as it read before'; 0 by the template 'total and deterministic' (their statements: Qxb6608620aTotals.lean).
  GIVEN WITH THE SEED: the statements are not yours to turn. If you find one false, say at which input.
  Laid BY PROGRAM, IN A SANDBOX (cutbox-rows.mjs): the forced cells as the released guide's own fill.sh prints them over the translation 95f062ec12ffaaa0… (all of the seat's roots in one cut). By AI agents, Wed Nov 11 2026. No macro, syntax, notation, axiom, sorry.
-/
import Derived.Test.Qxb6608620aChecked
import GoSem.Claim
import GoSem.ClaimJoined
import GoSem.ClaimMapViews
import Derived.JoinedTies
import Derived.KernelRfl
namespace Go.Proofs.Qxb6608620a
/- THE CELL 'sum', in the pinned program and in every row, IS THE sha256 OF THE DUMP (.gsa) THAT Qxb6608620aProg.lean LOADS. Nothing in Lean hashes anything: it is a label: what it is worth is what the hold of that sum in a sandbox is worth. -/
noncomputable def Try.pinned : Pinned := { name := "qxb6608620a", sum := "95f062ec12ffaaa0b6337ec1df344fa887a7db5ae32fe867fe188e6a01f0c9a5", checked := Try.checked }
namespace Rows
def none {H : Type} : Left H := { results := [], args := [] }

/-- 'zzlaws_root_b1.FnCountsAddUpAtAnyCut': WHATEVER THE INPUT: true; the input reads as it did. -/
def fnCountsAddUpAtAnyCutSpec : ChangeSpec := { name := "fnCountsAddUpAtAnyCut", fn := fun _ => fun
  | [d1, d2, d3, d4] => { results := [.lit (.bool true)], args := [d1, d2, d3, d4] }
  | _ => none }
def fnCountsAddUpAtAnyCutRow : OpenClaim := { program := "qxb6608620a", sum := "95f062ec12ffaaa0b6337ec1df344fa887a7db5ae32fe867fe188e6a01f0c9a5", func := "example.com/vakt/vakt/zzlaws_root_b1.FnCountsAddUpAtAnyCut", spec := "fnCountsAddUpAtAnyCut", apart := false }
def FnCountsAddUpAtAnyCutSaid : Prop := fnCountsAddUpAtAnyCutRow.holds Try.pinned (OpenSpec.ofChange fnCountsAddUpAtAnyCutSpec)

/-- ITS FALSE NEIGHBOUR: 'it returns false'. Refute it at one input. -/
def fnCountsAddUpAtAnyCutWrong : ChangeSpec := { name := "fnCountsAddUpAtAnyCut", fn := fun _ => fun
  | [d1, d2, d3, d4] => { results := [.lit (.bool false)], args := [d1, d2, d3, d4] }
  | _ => none }
def FnCountsAddUpAtAnyCutWrongFalsely : Prop := fnCountsAddUpAtAnyCutRow.holds Try.pinned (OpenSpec.ofChange fnCountsAddUpAtAnyCutWrong)

/-- 'zzlaws_root_b1.FnCountsOneGroupPutInAnywhere': WHATEVER THE INPUT: true; the input reads as it did. -/
def fnCountsOneGroupPutInAnywhereSpec : ChangeSpec := { name := "fnCountsOneGroupPutInAnywhere", fn := fun _ => fun
  | [d1, d2, d3, d4] => { results := [.lit (.bool true)], args := [d1, d2, d3, d4] }
  | _ => none }
def fnCountsOneGroupPutInAnywhereRow : OpenClaim := { program := "qxb6608620a", sum := "95f062ec12ffaaa0b6337ec1df344fa887a7db5ae32fe867fe188e6a01f0c9a5", func := "example.com/vakt/vakt/zzlaws_root_b1.FnCountsOneGroupPutInAnywhere", spec := "fnCountsOneGroupPutInAnywhere", apart := false }
def FnCountsOneGroupPutInAnywhereSaid : Prop := fnCountsOneGroupPutInAnywhereRow.holds Try.pinned (OpenSpec.ofChange fnCountsOneGroupPutInAnywhereSpec)

/-- ITS FALSE NEIGHBOUR: 'it returns false'. Refute it at one input. -/
def fnCountsOneGroupPutInAnywhereWrong : ChangeSpec := { name := "fnCountsOneGroupPutInAnywhere", fn := fun _ => fun
  | [d1, d2, d3, d4] => { results := [.lit (.bool false)], args := [d1, d2, d3, d4] }
  | _ => none }
def FnCountsOneGroupPutInAnywhereWrongFalsely : Prop := fnCountsOneGroupPutInAnywhereRow.holds Try.pinned (OpenSpec.ofChange fnCountsOneGroupPutInAnywhereWrong)

end Rows
end Go.Proofs.Qxb6608620a
