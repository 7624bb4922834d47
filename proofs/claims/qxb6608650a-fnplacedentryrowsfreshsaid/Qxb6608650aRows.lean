/-
  No cell of these rows narrows 'for every input' (looked for: loops, veiled, ifaces, maps, wideKeys, modest, calm, conditions, laid).
  DERIVED. THE GIVEN ROWS OF THIS SEAT. 4 by the template 'for every input the law returns true; each argument reads behind the call as it read before'; 0 by the template 'total and deterministic' (their statements: Qxb6608650aTotals.lean).
  GIVEN WITH THE SEED: the statements are not yours to turn. If you find one false, say at which input.
  Laid BY PROGRAM, IN A SANDBOX (cutbox-rows.mjs): the forced cells as the released guide's own fill.sh prints them over the translation fe79eeae257ab77a… (all of the seat's roots in one cut). By AI agents, Wed Nov 11 2026. No macro, syntax, notation, axiom, sorry.
-/
import Derived.Test.Qxb6608650aChecked
import GoSem.Claim
import GoSem.ClaimJoined
import GoSem.ClaimMapViews
import Derived.JoinedTies
import Derived.KernelRfl
namespace Go.Proofs.Qxb6608650a
/- THE CELL 'sum', in the pinned program and in every row, IS THE sha256 OF THE DUMP (.gsa) THAT Qxb6608650aProg.lean LOADS. Nothing in Lean hashes anything: it is a label: what it is worth is what the hold of that sum in a sandbox is worth. -/
noncomputable def Try.pinned : Pinned := { name := "qxb6608650a", sum := "fe79eeae257ab77a020a41ee9dfa7670b055c0aedbf7fa2673546174a2d0bec0", checked := Try.checked }
namespace Rows
def none {H : Type} : Left H := { results := [], args := [] }

/-- 'zzlaws_root_b1.FnInListReadsBack': WHATEVER THE INPUT: true; the input reads as it did. -/
def fnInListReadsBackSpec : ChangeSpec := { name := "fnInListReadsBack", fn := fun _ => fun
  | [d1, d2, d3, d4, d5, d6] => { results := [.lit (.bool true)], args := [d1, d2, d3, d4, d5, d6] }
  | _ => none }
def fnInListReadsBackRow : OpenClaim := { program := "qxb6608650a", sum := "fe79eeae257ab77a020a41ee9dfa7670b055c0aedbf7fa2673546174a2d0bec0", func := "example.com/nearpath/nearpath/zzlaws_root_b1.FnInListReadsBack", spec := "fnInListReadsBack", plainKeys := false, apart := false }
def FnInListReadsBackSaid : Prop := fnInListReadsBackRow.holds Try.pinned (OpenSpec.ofChange fnInListReadsBackSpec)

/-- ITS FALSE NEIGHBOUR: 'it returns false'. Refute it at one input. -/
def fnInListReadsBackWrong : ChangeSpec := { name := "fnInListReadsBack", fn := fun _ => fun
  | [d1, d2, d3, d4, d5, d6] => { results := [.lit (.bool false)], args := [d1, d2, d3, d4, d5, d6] }
  | _ => none }
def FnInListReadsBackWrongFalsely : Prop := fnInListReadsBackRow.holds Try.pinned (OpenSpec.ofChange fnInListReadsBackWrong)

/-- 'zzlaws_root_b1.FnInListLastWins': WHATEVER THE INPUT: true; the input reads as it did. -/
def fnInListLastWinsSpec : ChangeSpec := { name := "fnInListLastWins", fn := fun _ => fun
  | [d1, d2, d3, d4, d5, d6, d7] => { results := [.lit (.bool true)], args := [d1, d2, d3, d4, d5, d6, d7] }
  | _ => none }
def fnInListLastWinsRow : OpenClaim := { program := "qxb6608650a", sum := "fe79eeae257ab77a020a41ee9dfa7670b055c0aedbf7fa2673546174a2d0bec0", func := "example.com/nearpath/nearpath/zzlaws_root_b1.FnInListLastWins", spec := "fnInListLastWins", plainKeys := false, apart := false }
def FnInListLastWinsSaid : Prop := fnInListLastWinsRow.holds Try.pinned (OpenSpec.ofChange fnInListLastWinsSpec)

/-- ITS FALSE NEIGHBOUR: 'it returns false'. Refute it at one input. -/
def fnInListLastWinsWrong : ChangeSpec := { name := "fnInListLastWins", fn := fun _ => fun
  | [d1, d2, d3, d4, d5, d6, d7] => { results := [.lit (.bool false)], args := [d1, d2, d3, d4, d5, d6, d7] }
  | _ => none }
def FnInListLastWinsWrongFalsely : Prop := fnInListLastWinsRow.holds Try.pinned (OpenSpec.ofChange fnInListLastWinsWrong)

/-- 'zzlaws_root_b1.FnPlacedEntryRowsUnheld': WHATEVER THE INPUT: true; the input reads as it did. -/
def fnPlacedEntryRowsUnheldSpec : ChangeSpec := { name := "fnPlacedEntryRowsUnheld", fn := fun _ => fun
  | [d1, d2, d3, d4, d5] => { results := [.lit (.bool true)], args := [d1, d2, d3, d4, d5] }
  | _ => none }
def fnPlacedEntryRowsUnheldRow : OpenClaim := { program := "qxb6608650a", sum := "fe79eeae257ab77a020a41ee9dfa7670b055c0aedbf7fa2673546174a2d0bec0", func := "example.com/nearpath/nearpath/zzlaws_root_b1.FnPlacedEntryRowsUnheld", spec := "fnPlacedEntryRowsUnheld", inPlace := ["math.Float64frombits"], unfollowed := true, recurses := true, plainKeys := false, apart := false }
def FnPlacedEntryRowsUnheldSaid : Prop := fnPlacedEntryRowsUnheldRow.holds Try.pinned (OpenSpec.ofChange fnPlacedEntryRowsUnheldSpec)

/-- ITS FALSE NEIGHBOUR: 'it returns false'. Refute it at one input. -/
def fnPlacedEntryRowsUnheldWrong : ChangeSpec := { name := "fnPlacedEntryRowsUnheld", fn := fun _ => fun
  | [d1, d2, d3, d4, d5] => { results := [.lit (.bool false)], args := [d1, d2, d3, d4, d5] }
  | _ => none }
def FnPlacedEntryRowsUnheldWrongFalsely : Prop := fnPlacedEntryRowsUnheldRow.holds Try.pinned (OpenSpec.ofChange fnPlacedEntryRowsUnheldWrong)

/-- 'zzlaws_root_b1.FnPlacedEntryRowsFresh': WHATEVER THE INPUT: true; the input reads as it did. -/
def fnPlacedEntryRowsFreshSpec : ChangeSpec := { name := "fnPlacedEntryRowsFresh", fn := fun _ => fun
  | [d1, d2, d3, d4, d5] => { results := [.lit (.bool true)], args := [d1, d2, d3, d4, d5] }
  | _ => none }
def fnPlacedEntryRowsFreshRow : OpenClaim := { program := "qxb6608650a", sum := "fe79eeae257ab77a020a41ee9dfa7670b055c0aedbf7fa2673546174a2d0bec0", func := "example.com/nearpath/nearpath/zzlaws_root_b1.FnPlacedEntryRowsFresh", spec := "fnPlacedEntryRowsFresh", inPlace := ["math.Float64frombits"], unfollowed := true, recurses := true, plainKeys := false, apart := false }
def FnPlacedEntryRowsFreshSaid : Prop := fnPlacedEntryRowsFreshRow.holds Try.pinned (OpenSpec.ofChange fnPlacedEntryRowsFreshSpec)

/-- ITS FALSE NEIGHBOUR: 'it returns false'. Refute it at one input. -/
def fnPlacedEntryRowsFreshWrong : ChangeSpec := { name := "fnPlacedEntryRowsFresh", fn := fun _ => fun
  | [d1, d2, d3, d4, d5] => { results := [.lit (.bool false)], args := [d1, d2, d3, d4, d5] }
  | _ => none }
def FnPlacedEntryRowsFreshWrongFalsely : Prop := fnPlacedEntryRowsFreshRow.holds Try.pinned (OpenSpec.ofChange fnPlacedEntryRowsFreshWrong)

end Rows
end Go.Proofs.Qxb6608650a
